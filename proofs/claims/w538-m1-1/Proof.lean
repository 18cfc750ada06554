import JvmDerived
import JvmDerived.Pilot.@@N@@Statement
import JvmDerived.Pilot.@@N@@Code
set_option linter.unusedVariables false
set_option linter.unusedSimpArgs false
namespace Jvm.RoadKit
open Sem ClassFile Op Lib Jvm.Stand Jvm.Free Jvm.LawKit
section New
variable {p : Program} {l : Launch} {e : Env} {R : Room} {s : State} {m : MethodId} {args : Array Value} {below : List Frame} {meth : Method} {c : Code} {T : State} {locs : List Loc} {cells slots : Nat}
theorem retI (X : Stand p l e R s m args below meth c T locs cells slots) (hx : p.tables.exec = Jvm.exec) {pc : Nat} {Ls : Array Slot} {z : Int32} {rest : List Value} (hret : meth.sig.returnType = some .int) (hd : decode c.code pc = .ok (.ireturn, 1)) {fs : List Frame}
    (hl : ∀ (f : JFrame) (acts : List Action), f.method = m → f.locked = none → f.entered = [] → (doReturn e (T.setTop f) acts (some (.int z))).1 = T.setFrames fs) : Steps p.tables e below (T.setTop (mkF m pc Ls (.int z :: rest))) (T.setFrames fs) := by
  have hm' : T.vm.method? m = some meth := X.method'
  have hn : narrow .int (.int z) = .int z := rfl
  show Steps p.tables e below (T.setTop { method := m, pc := pc, locals := Ls, stack := _ :: rest, locked := none }) _
  jvm_step X.here [X.here.top, hx, hd, hm', hret, hn]
  first | (intro acts; rw [hl _ acts rfl rfl rfl]) | rw [hl _ _ rfl rfl rfl]
  exact Steps.refl _
end New
end Jvm.RoadKit
@@BLOCK:NumsL.lean.txt@@
namespace Jvm.Pilot.@@N@@
open Jvm Jvm.ClassFile Sem Op Lib Jvm.Free Jvm.Stand Jvm.LawKit Jvm.RoadKit Bundle Jvm.Pilot.@@N@@.Jvm.D
/-- a run from here that ends well -/
def own_G (p : Program) (e : Env) (below : List Frame) (P : Outcome → State → Prop) (S : State) : Prop := ∃ s₂ o, Steps p.tables e below S s₂ ∧ s₂.status = .running ∧ Ended s₂ below o ∧ P o s₂
theorem own_go {p : Program} {e : Env} {below : List Frame} {P : Outcome → State → Prop} {S : State} (S' : State) (k : ∀ t, Steps p.tables e below S' t → Steps p.tables e below S t) (h : own_G p e below P S') : own_G p e below P S := by
  obtain ⟨s₂, o, h1, h2⟩ := h
  exact ⟨s₂, o, k _ h1, h2⟩
theorem own_st1 {l : Array Slot} {i : Nat} {x : Slot} {v : Value} (hx : l[i]? = some x) (hv : v.category = 1) (h : One x) : storeLocals l i v = some (l.setIfInBounds i (.val v)) := by
  rcases h with rfl | ⟨w, rfl, hw⟩
  · exact storeLocals_cat1 hx hv trivial
  · exact storeLocals_cat1 hx hv hw
theorem own_selp {s : State} {args : Array Value} {D : String} {y z : MethodName} (h : (Cond.selects D z z).before args s = true) (hc : z.cls = y.cls) (hpriv : s.PrivateAt y) (hinst : (Cond.instanceMethod y).before args s = true) (hy : y.cls ≠ "java/lang/invoke/MethodHandle" ∧ y.cls ≠ "java/lang/invoke/VarHandle") : (Cond.selects y.cls y y).before args s = true := by
  obtain ⟨c, r, m, q1, q2, q3, q4, mk, hk, hi⟩ := Cond.selects_spec h
  exact selects_self_of_private (hc ▸ findClass_of_methodNamed q3) hk hi hpriv hinst hy
theorem own_sameM {s : State} {args : Array Value} {D : String} {y z : MethodName} (hinst : (Cond.instanceMethod y).before args s = true) (hsel : (Cond.selects D z z).before args s = true) (hc : z.cls = y.cls) (hy : y.cls ≠ "java/lang/invoke/MethodHandle" ∧ y.cls ≠ "java/lang/invoke/VarHandle") : (Cond.sameMethod y.cls y.cls y.name y.desc).before args s = true := by
  obtain ⟨mk, methM, hnamed, hmethM, -, -⟩ := Cond.instanceMethod_spec hinst
  obtain ⟨c, r, m, q1, q2, q3, q4, k, hk, hi⟩ := Cond.selects_spec hsel
  have hfound := State.methodFound?_of_named hnamed hy
  have hcn := findClass_of_methodNamed hnamed
  have e : m.cls = mk.cls := Option.some.inj ((findClass_of_methodNamed q3).symm.trans (hc ▸ hcn))
  rw [e] at hk
  obtain ⟨yc, yn, yd⟩ := y
  simp_all [Cond.before, Cond.holds, Cond.value]
theorem own_nf {s : State} {args : Array Value} {D : String} {y z : MethodName} (hsel : (Cond.selects D z z).before args s = true) (hc : z.cls = y.cls) : NotFace s y := fun r0 h0 => by
  obtain ⟨c, r, m, q1, q2, q3, q4, k, hk, hi⟩ := Cond.selects_spec hsel
  have e : m.cls = r0.cls := Option.some.inj ((findClass_of_methodNamed q3).symm.trans (hc ▸ findClass_of_methodNamed h0))
  exact ⟨k, e ▸ hk, hi⟩
theorem own_lt {x y : Int64} : lcmpW x y < 0 ↔ x < y := by rw [lcW]; exact lc_lt x y
theorem own_gt {x y : Int64} : (0 : Int32) < lcmpW x y ↔ y < x := by rw [lcW]; exact lc_gt x y
theorem own_eq {x y : Int64} : lcmpW x y = 0 ↔ x = y := by rw [lcW]; exact lc_eq x y
theorem own_extK {Z : State} {h h' : Heap} {ws : List Addr} (O : Ext Z.heap h) (K : Keep h h' ws) (q : ∀ x ∈ ws, Z.heap.size ≤ x) : Ext Z.heap h' :=
  (Old.keep (n0 := Z.heap.size) ⟨rfl, O⟩ K q).2
theorem own_ext {h h1 h2 : Heap} (E : Ext h h1) (F : Ext h1 h2) : Ext h h2 := ⟨Nat.le_trans E.1 F.1, fun a c q => F.2 a c (E.2 a c q)⟩
theorem own_extW {Z : State} {h h' : Heap} {a : Addr} {sl : Nat} {v : Value} (O : Ext Z.heap h) (W : Wr h h' a sl v) (q : Z.heap.size ≤ a) : Ext Z.heap h' := own_extK O (Keep.of_wr W) (allS q all0)
theorem own_fldI {s : State} {args : Array Value} {t : Term} {C n d : String} {k : Int32} {a : Addr} (h : (Cond.eq (Term.field t C n d) (Term.int k)).value args s none s [] = some true) (ev : t.eval args s none [] s = some (.ref a)) : Fld s s.heap a C n d (.int k) := by
  obtain ⟨x, y, h1, h2, h3, -⟩ := cmp_v (Or.inl h)
  have h4 : s.fieldOf? a C n d = some x := (fld_at ev).symm.trans h1
  have h5 : y = .int k := (Option.some.inj (h2.symm.trans (Term.int_eval k)))
  subst h5
  cases x with
  | int z =>
    simp only [Cond.value, h1, h2] at h
    have e : z = k := by simpa using h
    subst e
    exact Fld.start h4
  | _ => simp [Kin, Value.isRef] at h3
theorem own_fldV {s : State} {args : Array Value} {t u : Term} {C n d : String} {b : Addr} {a : Addr} (h : (Cond.eq (Term.field t C n d) u).value args s none s [] = some true) (ev : t.eval args s none [] s = some (.ref a)) (eu : u.eval args s none [] s = some (.ref b)) : Fld s s.heap a C n d (.ref b) := by
  obtain ⟨x, y, h1, h2, h3, -⟩ := cmp_v (Or.inl h)
  have h4 : s.fieldOf? a C n d = some x := (fld_at ev).symm.trans h1
  have h5 : y = .ref b := (Option.some.inj (h2.symm.trans eu))
  subst h5
  cases x with
  | ref z =>
    simp only [Cond.value, h1, h2] at h
    have e : z = b := by simpa using h
    subst e
    exact Fld.start h4
  | null => simp [Cond.value, h1, h2] at h
  | _ => simp [Kin, Value.isRef] at h3
theorem own_elemI {s : State} {args : Array Value} {t : Term} {j k : Int32} {a : Addr} {cl : Cell} (h : (Cond.eq (Term.elem t (Term.int j)) (Term.int k)).value args s none s [] = some true) (ev : t.eval args s none [] s = some (.ref a)) (hc : s.heap[a]? = some cl) : ¬ (j < 0 ∨ cl.slots.size ≤ j.toNatClampNeg) ∧ cl.slots[j.toNatClampNeg]? = some (.int k) := by
  obtain ⟨x, y, h1, h2, h3, -⟩ := cmp_v (Or.inl h)
  have h4 := elem_in h1 ev (Term.int_eval j) hc
  have h5 : y = .int k := (Option.some.inj (h2.symm.trans (Term.int_eval k)))
  subst h5
  cases x with
  | int z =>
    simp only [Cond.value, h1, h2] at h
    have e : z = k := by simpa using h
    subst e
    exact h4
  | _ => simp [Kin, Value.isRef] at h3
theorem own_elemV {s : State} {args : Array Value} {t u : Term} {j : Int32} {a b : Addr} {cl : Cell} (h : (Cond.eq (Term.elem t (Term.int j)) u).value args s none s [] = some true) (ev : t.eval args s none [] s = some (.ref a)) (eu : u.eval args s none [] s = some (.ref b)) (hc : s.heap[a]? = some cl) : ¬ (j < 0 ∨ cl.slots.size ≤ j.toNatClampNeg) ∧ cl.slots[j.toNatClampNeg]? = some (.ref b) := by
  obtain ⟨x, y, h1, h2, h3, -⟩ := cmp_v (Or.inl h)
  have h4 := elem_in h1 ev (Term.int_eval j) hc
  have h5 : y = .ref b := (Option.some.inj (h2.symm.trans eu))
  subst h5
  cases x with
  | ref z =>
    simp only [Cond.value, h1, h2] at h
    have e : z = b := by simpa using h
    subst e
    exact h4
  | null => simp [Cond.value, h1, h2] at h
  | _ => simp [Kin, Value.isRef] at h3
theorem own_fldN {s : State} {args : Array Value} {t : Term} {C n d : String} {a : Addr} (h : (Cond.eq (Term.field t C n d) Term.null).value args s none s [] = some true) (ev : t.eval args s none [] s = some (.ref a)) : Fld s s.heap a C n d .null :=
  Fld.start ((fld_at ev).symm.trans (null_v h))
theorem own_case {i : Int32} {k : Int} (c : Int32) (h : i.toInt = k) (hc : c.toInt = k) : i = c := Int32.toInt_inj.mp (h.trans hc.symm)
theorem own_mask (x : Int32) : 0 ≤ (x &&& 2147483647).toInt := by
  have e := Jvm.Kit.i32_mask x 2147483647 (k := 31) (by decide) (by decide)
  omega
theorem own_mod (x n : Int32) (hn : 0 < n.toInt) : 0 ≤ ((x &&& 2147483647) % n).toInt ∧ ((x &&& 2147483647) % n).toInt < n.toInt := by
  rw [Jvm.Kit.i32_rem_nonneg (own_mask x)]
  exact ⟨Int.emod_nonneg _ (by omega), Int.emod_lt_of_pos _ hn⟩
theorem own_and3 (x : Int32) : (x &&& 3) = 0 ∨ (x &&& 3) = 1 ∨ (x &&& 3) = 2 ∨ (x &&& 3) = 3 := by
  have e := Jvm.Kit.i32_mask x 3 (k := 2) (by decide) (by decide)
  rcases (by omega : (x &&& 3).toInt = 0 ∨ (x &&& 3).toInt = 1 ∨ (x &&& 3).toInt = 2 ∨ (x &&& 3).toInt = 3) with q | q | q | q
  · exact Or.inl (own_case 0 q (by decide))
  · exact Or.inr (Or.inl (own_case 1 q (by decide)))
  · exact Or.inr (Or.inr (Or.inl (own_case 2 q (by decide))))
  · exact Or.inr (Or.inr (Or.inr (own_case 3 q (by decide))))
def own_mir (Z : State) (C : String) (a : Addr) : Prop := ∃ c k, Z.vm.findClass C = some c ∧ Z.vm.classes[c]? = some k ∧ k.mirror = some a
theorem own_mirT {Z s : State} {C : String} {a : Addr} (hZ : Z.Warmed39 s.vm) (M : own_mir Z C a) {c : ClassId} {k : Class} (h1 : s.vm.findClass C = some c) (h2 : s.vm.classes[c]? = some k) : k.mirror = some a := by
  obtain ⟨c0, k0, f1, f2, f3⟩ := M
  rw [hZ.alike.findClass] at h1
  cases f1.symm.trans h1
  obtain ⟨k', hk', he⟩ := hZ.alike.2.2 _ _ f2
  cases hk'.symm.trans h2
  rw [he]; exact f3
theorem own_mirE {Z s : State} {C : String} {a : Addr} {args : Array Value} (hZ : Z.Warmed39 s.vm) (M : own_mir Z C a) : (Term.mirror C).eval args s none [] s = some (.ref a) := by
  obtain ⟨c0, k0, f1, f2, f3⟩ := M
  obtain ⟨k', hk', he⟩ := hZ.alike.2.2 _ _ f2
  simp only [Term.eval, Option.bind_eq_bind, Option.bind_eq_some_iff, Option.pure_def, Option.some.injEq]
  exact ⟨c0, by rw [hZ.alike.findClass]; exact f1, k', hk', a, by rw [he]; exact f3, rfl⟩
theorem own_nb (v : Int32) : nar .byte (v.toInt8.toInt32) = v.toInt8.toInt32 := by simp [nar]
theorem own_five (x : Int32) : ((x &&& (2147483647 : Int32)) % (5 : Int32)) = 0 ∨ ((x &&& (2147483647 : Int32)) % (5 : Int32)) = 1 ∨ ((x &&& (2147483647 : Int32)) % (5 : Int32)) = 2 ∨ ((x &&& (2147483647 : Int32)) % (5 : Int32)) = 3 ∨ ((x &&& (2147483647 : Int32)) % (5 : Int32)) = 4 := by
  obtain ⟨a, b⟩ := own_mod x 5 (by decide)
  have e5 : (5 : Int32).toInt = 5 := by decide
  rw [e5] at b
  rcases (by omega : ((x &&& (2147483647 : Int32)) % (5 : Int32)).toInt = 0 ∨ ((x &&& (2147483647 : Int32)) % (5 : Int32)).toInt = 1 ∨ ((x &&& (2147483647 : Int32)) % (5 : Int32)).toInt = 2 ∨ ((x &&& (2147483647 : Int32)) % (5 : Int32)).toInt = 3 ∨ ((x &&& (2147483647 : Int32)) % (5 : Int32)).toInt = 4) with h | h | h | h | h
  · exact Or.inl (Int32.toInt_inj.mp h)
  · exact Or.inr (Or.inl (Int32.toInt_inj.mp h))
  · exact Or.inr (Or.inr (Or.inl (Int32.toInt_inj.mp h)))
  · exact Or.inr (Or.inr (Or.inr (Or.inl (Int32.toInt_inj.mp h))))
  · exact Or.inr (Or.inr (Or.inr (Or.inr (Int32.toInt_inj.mp h))))
def own_W (Z : State) (cs0 : Int32) (a_EM : Addr) (a_DF : Addr) (m_A : Addr) (m_L : Addr) (m_R : Addr) : Prop := (Sta Z Z.heap "java/lang/String" "COMPACT_STRINGS" "Z" (.int cs0)) ∧ (¬ cs0 = (0 : Int32)) ∧ (Sta Z Z.heap "java/util/ArrayList" "EMPTY_ELEMENTDATA" "[Ljava/lang/Object;" (.ref a_EM)) ∧ (Sta Z Z.heap "java/util/ArrayList" "DEFAULTCAPACITY_EMPTY_ELEMENTDATA" "[Ljava/lang/Object;" (.ref a_DF)) ∧ (own_mir Z "java/util/ArrayList" m_A) ∧ (own_mir Z "java/util/Collections$UnmodifiableList" m_L) ∧ (own_mir Z "java/util/Collections$UnmodifiableRandomAccessList" m_R)
theorem own_i2c (x : Int32) : nar .char ((x &&& (255 : Int32)).toUInt32.toUInt16.toUInt32.toInt32) = x &&& 255 := by
  rw [i2c_mask]
  exact i2c_mask x
theorem own_byte (x : Int32) : ¬ (x &&& 255) < 0 ∧ ¬ (255 : Int32) < (x &&& 255) := by
  have e := Jvm.Kit.i32_mask x 255 (k := 8) (by decide) (by decide)
  have e0 : (0 : Int32).toInt = 0 := by decide
  have e1 : (255 : Int32).toInt = 255 := by decide
  constructor <;> (intro q; rw [Int32.lt_iff_toInt_lt] at q; omega)
theorem own_c255 (x : Int32) : ¬ nar .char ((x &&& (255 : Int32)).toUInt32.toUInt16.toUInt32.toInt32) < 0 ∧ ¬ (255 : Int32) < nar .char ((x &&& (255 : Int32)).toUInt32.toUInt16.toUInt32.toInt32) := by
  rw [own_i2c]
  exact own_byte x
theorem own_all0 {P : Int32 → Prop} : ∀ c ∈ ([] : List Int32), P c := fun _ q => nomatch q
theorem own_allS {P : Int32 → Prop} {y : Int32} {L : List Int32} (q : P y) (r : ∀ c ∈ L, P c) : ∀ c ∈ y :: L, P c := fun c z => (List.mem_cons.mp z).elim (fun u => u ▸ q) (r c)
theorem own_snew {Z : State} {EL : List (String × Nat)} {vm : Vm} {h : Heap} {x : Addr} (R : CHv Z EL vm h) (hx : h.size ≤ x) : Safe Z EL vm h x := Safe.new hx
theorem own_sA : ∀ d ∈ Bundle.stringAtoms, d ∈ tables_1 := by decide +kernel
theorem own_EW {Z : State} {a0 : Array Value} (hw : ∀ d ∈ tables_1, d.before a0 Z = true) : EW Z a0 consts_1 := (EW.cons (hw _ (List.mem_of_getElem? (i := 24) rfl)) (by decide) (EW.cons (hw _ (List.mem_of_getElem? (i := 38) rfl)) (by decide) (EW.cons (hw _ (List.mem_of_getElem? (i := 39) rfl)) (by decide) (EW.cons (hw _ (List.mem_of_getElem? (i := 84) rfl)) (by decide) (EW.cons (hw _ (List.mem_of_getElem? (i := 86) rfl)) (by decide) (EW.cons (hw _ (List.mem_of_getElem? (i := 88) rfl)) (by decide) (EW.cons (hw _ (List.mem_of_getElem? (i := 92) rfl)) (by decide) (EW.cons (hw _ (List.mem_of_getElem? (i := 102) rfl)) (by decide) (EW.cons (hw _ (List.mem_of_getElem? (i := 3) rfl)) (by decide) (EW.cons (hw _ (List.mem_of_getElem? (i := 11) rfl)) (by decide) (EW.cons (hw _ (List.mem_of_getElem? (i := 12) rfl)) (by decide) (EW.cons (hw _ (List.mem_of_getElem? (i := 78) rfl)) (by decide) (EW.cons (hw _ (List.mem_of_getElem? (i := 79) rfl)) (by decide) EW.nil)))))))))))))
theorem own_pn0 : plainName "java/lang/Record" = true := by first | (simp [plainName, overriddenIn]; done) | decide +kernel
theorem own_ef_rec (m : MethodId) (a : Addr) : entryFrame m #[(.ref a)] 1 = mkF m 0 #[.val (.ref a)] [] := by first | (simp [entryFrame, mkF, argsToLocals, Value.category]; done) | rfl
theorem own_d_jdk_30_method_1_0 : decode jdk_30_method_1_code 0 = .ok (.aload_n 0, 1) := by decide +kernel
theorem own_d_jdk_30_method_1_1 : decode jdk_30_method_1_code 1 = .ok (.invokespecial 1, 3) := by decide +kernel
theorem own_d_jdk_30_method_1_4 : decode jdk_30_method_1_code 4 = .ok (.return_, 1) := by decide +kernel
def Q_rec (Z : State) (a : Addr) (h0 : Heap) (v_ : Option Value) (h : Heap) (L_ : List Loc) : Prop := v_ = none ∧ Fr Z.heap.size L_ ∧ (h = h0)
set_option maxRecDepth 65536 in
set_option maxHeartbeats 40000000 in
theorem rm_rec (l : Launch) (Z : State) (a0 : Array Value) (hw : ∀ d ∈ tables_1, d.before a0 Z = true) (ws : List Jvm.Cond) (a : Addr) (h0 : Heap) (O : Ext Z.heap h0) :
    MetFree l (⟨"java/lang/Record", "<init>", "()V"⟩ : MethodName) (head1 (Jvm.Cond.code (⟨"java/lang/Record", "<init>", "()V"⟩ : MethodName) jdk_30_method_1_code 1 none :: ws) ({ frames := 1, cells := 0, slots := 0, locals := 12 } : Room)) (fun a_ U_ => a_ = #[(.ref a)] ∧ Z.Warmed39 U_.vm ∧ U_.heap = h0) (fun _ _ _ _ _ => True) (fun _ U_ o_ U2_ => ∃ v_ L_, o_ = .returned v_ ∧ Q_rec Z a h0 v_ U2_.heap L_ ∧ FrameEnd U_ o_ U2_ L_ ({ frames := 1, cells := 0, slots := 0, locals := 12 } : Room).cells ({ frames := 1, cells := 0, slots := 0, locals := 12 } : Room).slots) := by
  refine MetFree.of_bodySF (plainFor_of_name own_pn0) hisR ?_
  intro p e s m args below meth c s₁ Bd hml0 hP hK
  obtain ⟨rfl, hZ, hh⟩ := hP
  have hx := Bd.exec
  have hby := Bd.bytes
  have hml : c.maxLocals = 1 := hml0
  have hown : s.vm.findClass "java/lang/Record" = some m.cls := findClass_of_methodNamed Bd.named
  have hnm := (name_of_methodNamed Bd.named Bd.method).1
  have X0 : Stand p l e ({ frames := 1, cells := 0, slots := 0, locals := 12 } : Room) s m #[(.ref a)] below meth c s₁ [] 0 0 := Stand.of_body Bd
  have e0 : s₁.heap = h0 := by rw [← hh, Bd.state]; rfl
  have N0 := Fr.nil Z.heap.size
  show own_G p e below (fun o_ s₂ => ∃ v_ L_, o_ = .returned v_ ∧ Q_rec Z a h0 v_ s₂.heap L_ ∧ FrameEnd s o_ s₂ L_ ({ frames := 1, cells := 0, slots := 0, locals := 12 } : Room).cells ({ frames := 1, cells := 0, slots := 0, locals := 12 } : Room).slots) (s₁.setTop (entryFrame m #[(.ref a)] 1))
  refine own_go (s₁.setTop (mkF m 0 #[.val (.ref a)] [])) (fun t_ k_ => castTop (own_ef_rec m a) k_) ?_
  refine own_go (s₁.setTop (mkF m 1 #[.val (.ref a)] [(.ref a)])) (fun t_ k_ => XS.aloadN X0.here hx rfl (hb hby own_d_jdk_30_method_1_0) rfl rfl k_) ?_
  obtain ⟨T1, X1, e1, st1⟩ := initO X0 hx hZ hown (hw _ (List.mem_of_getElem? (i := 21) rfl)) (hw _ (List.mem_of_getElem? (i := 22) rfl)) (hw _ (List.mem_of_getElem? (i := 23) rfl)) e0 (g := (mkF m 1 #[.val (.ref a)] [(.ref a)])) rfl (by rw [hml]; rfl) rfl (hb hby own_d_jdk_30_method_1_1) (by decide) (W := 0) (by show 2 * 0 + _ ≤ _; exact Nat.le_of_eq rfl) (by decide)
  refine own_go (T1.setTop (mkF m 4 #[.val (.ref a)] [])) (fun t_ k_ => st1 _ k_) ?_
  obtain ⟨fs, hr, hrun, hended, hW, hsame⟩ := X1.leave (v := none) (fun _ => rfl)
  refine ⟨_, _, X1.returnOut hx Bd.returns (hb hby own_d_jdk_30_method_1_4) hr, hrun, hended, _, _, rfl, ?_, ⟨_, rfl⟩, hW, hsame.mono (by decide) (by decide)⟩
  show Q_rec Z a h0 _ T1.heap _
  exact ⟨rfl, N0, e1⟩
theorem own_pn1 : plainName "com/example/trailcaster/trailcaster/model/Checks" = true := by first | (simp [plainName, overriddenIn]; done) | decide +kernel
theorem own_ef_rq (m : MethodId) (o : Addr) (q : Addr) : entryFrame m #[(.ref o), (.ref q)] 2 = mkF m 0 #[.val (.ref o), .val (.ref q)] [] := by first | (simp [entryFrame, mkF, argsToLocals, Value.category]; done) | rfl
theorem own_d_prog_44_method_2_0 : decode prog_44_method_2_code 0 = .ok (.aload_n 0, 1) := by decide +kernel
theorem own_d_prog_44_method_2_1 : decode prog_44_method_2_code 1 = .ok (.ifnonnull 17, 3) := by decide +kernel
theorem own_d_prog_44_method_2_18 : decode prog_44_method_2_code 18 = .ok (.aload_n 0, 1) := by decide +kernel
theorem own_d_prog_44_method_2_19 : decode prog_44_method_2_code 19 = .ok (.areturn, 1) := by decide +kernel
def Q_rq (Z : State) (o : Addr) (q : Addr) (h0 : Heap) (v_ : Option Value) (h : Heap) (L_ : List Loc) : Prop := v_ = some (.ref o) ∧ Fr Z.heap.size L_ ∧ (h = h0)
set_option maxRecDepth 65536 in
set_option maxHeartbeats 40000000 in
theorem rm_rq (l : Launch) (Z : State) (a0 : Array Value) (hw : ∀ d ∈ tables_1, d.before a0 Z = true) (ws : List Jvm.Cond) (o : Addr) (q : Addr) (h0 : Heap) (O : Ext Z.heap h0) :
    MetFree l (⟨"com/example/trailcaster/trailcaster/model/Checks", "required", "(Ljava/lang/Object;Ljava/lang/String;)Ljava/lang/Object;"⟩ : MethodName) (head1 (Jvm.Cond.code (⟨"com/example/trailcaster/trailcaster/model/Checks", "required", "(Ljava/lang/Object;Ljava/lang/String;)Ljava/lang/Object;"⟩ : MethodName) prog_44_method_2_code 2 (some (.object "java/lang/Object")) :: ws) ({ frames := 0, cells := 0, slots := 0, locals := 0 } : Room)) (fun a_ U_ => a_ = #[(.ref o), (.ref q)] ∧ Z.Warmed39 U_.vm ∧ U_.heap = h0) (fun _ _ _ _ _ => True) (fun _ U_ o_ U2_ => ∃ v_ L_, o_ = .returned v_ ∧ Q_rq Z o q h0 v_ U2_.heap L_ ∧ FrameEnd U_ o_ U2_ L_ ({ frames := 0, cells := 0, slots := 0, locals := 0 } : Room).cells ({ frames := 0, cells := 0, slots := 0, locals := 0 } : Room).slots) := by
  refine MetFree.of_bodySF (plainFor_of_name own_pn1) hisR ?_
  intro p e s m args below meth c s₁ Bd hml0 hP hK
  obtain ⟨rfl, hZ, hh⟩ := hP
  have hx := Bd.exec
  have hby := Bd.bytes
  have hml : c.maxLocals = 2 := hml0
  have hown : s.vm.findClass "com/example/trailcaster/trailcaster/model/Checks" = some m.cls := findClass_of_methodNamed Bd.named
  have hnm := (name_of_methodNamed Bd.named Bd.method).1
  have X0 : Stand p l e ({ frames := 0, cells := 0, slots := 0, locals := 0 } : Room) s m #[(.ref o), (.ref q)] below meth c s₁ [] 0 0 := Stand.of_body Bd
  have e0 : s₁.heap = h0 := by rw [← hh, Bd.state]; rfl
  have N0 := Fr.nil Z.heap.size
  show own_G p e below (fun o_ s₂ => ∃ v_ L_, o_ = .returned v_ ∧ Q_rq Z o q h0 v_ s₂.heap L_ ∧ FrameEnd s o_ s₂ L_ ({ frames := 0, cells := 0, slots := 0, locals := 0 } : Room).cells ({ frames := 0, cells := 0, slots := 0, locals := 0 } : Room).slots) (s₁.setTop (entryFrame m #[(.ref o), (.ref q)] 2))
  refine own_go (s₁.setTop (mkF m 0 #[.val (.ref o), .val (.ref q)] [])) (fun t_ k_ => castTop (own_ef_rq m o q) k_) ?_
  refine own_go (s₁.setTop (mkF m 1 #[.val (.ref o), .val (.ref q)] [(.ref o)])) (fun t_ k_ => XS.aloadN X0.here hx rfl (hb hby own_d_prog_44_method_2_0) rfl rfl k_) ?_
  refine own_go (s₁.setTop (mkF m 18 #[.val (.ref o), .val (.ref q)] [])) (fun t_ k_ => XS.ifnonnullYes X0.here hx rfl (pc0 := 1) (pc' := 18) rfl (hb hby own_d_prog_44_method_2_1) rfl (by decide) (by decide) k_) ?_
  refine own_go (s₁.setTop (mkF m 19 #[.val (.ref o), .val (.ref q)] [(.ref o)])) (fun t_ k_ => XS.aloadN X0.here hx rfl (hb hby own_d_prog_44_method_2_18) rfl rfl k_) ?_
  obtain ⟨fs, hr, hrun, hended, hW, hsame⟩ := X0.leave (v := some (.ref o)) (fun h => by rw [Bd.returns] at h; cases h)
  refine ⟨_, _, Jvm.RoadKit.retOut X0 hx Bd.returns rfl (Or.inr (Or.inr (Or.inr (Or.inr ⟨rfl, rfl, rfl⟩)))) (hb hby own_d_prog_44_method_2_19) hr, hrun, hended, _, _, rfl, ?_, ⟨_, rfl⟩, hW, hsame.mono (by decide) (by decide)⟩
  show Q_rq Z o q h0 _ s₁.heap _
  exact ⟨rfl, N0, e0⟩
theorem own_pn2 : plainName "java/lang/String" = true := by first | (simp [plainName, overriddenIn]; done) | decide +kernel
theorem own_ef_ie (m : MethodId) (o : Addr) : entryFrame m #[(.ref o)] 1 = mkF m 0 #[.val (.ref o)] [] := by first | (simp [entryFrame, mkF, argsToLocals, Value.category]; done) | rfl
theorem own_d_jdk_42_method_55_0 : decode jdk_42_method_55_code 0 = .ok (.aload_n 0, 1) := by decide +kernel
theorem own_d_jdk_42_method_55_1 : decode jdk_42_method_55_code 1 = .ok (.getfield 9, 3) := by decide +kernel
theorem own_d_jdk_42_method_55_4 : decode jdk_42_method_55_code 4 = .ok (.arraylength, 1) := by decide +kernel
theorem own_d_jdk_42_method_55_5 : decode jdk_42_method_55_code 5 = .ok (.ifCond .ne 7, 3) := by decide +kernel
theorem own_d_jdk_42_method_55_12 : decode jdk_42_method_55_code 12 = .ok (.iconst 0, 1) := by decide +kernel
theorem own_d_jdk_42_method_55_13 : decode jdk_42_method_55_code 13 = .ok (.ireturn, 1) := by decide +kernel
def Q_ie (Z : State) (o : Addr) (t1 : Addr) (kb : ClassId) (vs : List Value) (h0 : Heap) (v_ : Option Value) (h : Heap) (L_ : List Loc) : Prop := v_ = some (.int 0) ∧ Fr Z.heap.size L_ ∧ (h = h0)
set_option maxRecDepth 65536 in
set_option maxHeartbeats 40000000 in
theorem rm_ie (l : Launch) (Z : State) (a0 : Array Value) (hw : ∀ d ∈ tables_1, d.before a0 Z = true) (ws : List Jvm.Cond) (o : Addr) (t1 : Addr) (kb : ClassId) (vs : List Value) (h0 : Heap) (O : Ext Z.heap h0) (Xo : Exa Z h0 o "java/lang/String") (Vo : Fld Z h0 o "java/lang/String" "value" "[B" (.ref t1)) (Ao : Arv Z h0 t1 kb .byte 1 vs (.int 0)) :
    MetFree l (⟨"java/lang/String", "isEmpty", "()Z"⟩ : MethodName) (head1 (Jvm.Cond.code (⟨"java/lang/String", "isEmpty", "()Z"⟩ : MethodName) jdk_42_method_55_code 1 (some .boolean) :: ws) ({ frames := 0, cells := 0, slots := 0, locals := 0 } : Room)) (fun a_ U_ => a_ = #[(.ref o)] ∧ Z.Warmed39 U_.vm ∧ U_.heap = h0) (fun _ _ _ _ _ => True) (fun _ U_ o_ U2_ => ∃ v_ L_, o_ = .returned v_ ∧ Q_ie Z o t1 kb vs h0 v_ U2_.heap L_ ∧ FrameEnd U_ o_ U2_ L_ ({ frames := 0, cells := 0, slots := 0, locals := 0 } : Room).cells ({ frames := 0, cells := 0, slots := 0, locals := 0 } : Room).slots) := by
  refine MetFree.of_bodySF (plainFor_of_name own_pn2) hisR ?_
  intro p e s m args below meth c s₁ Bd hml0 hP hK
  obtain ⟨rfl, hZ, hh⟩ := hP
  have hx := Bd.exec
  have hby := Bd.bytes
  have hml : c.maxLocals = 1 := hml0
  have hown : s.vm.findClass "java/lang/String" = some m.cls := findClass_of_methodNamed Bd.named
  have hnm := (name_of_methodNamed Bd.named Bd.method).1
  have X0 : Stand p l e ({ frames := 0, cells := 0, slots := 0, locals := 0 } : Room) s m #[(.ref o)] below meth c s₁ [] 0 0 := Stand.of_body Bd
  have e0 : s₁.heap = h0 := by rw [← hh, Bd.state]; rfl
  have N0 := Fr.nil Z.heap.size
  show own_G p e below (fun o_ s₂ => ∃ v_ L_, o_ = .returned v_ ∧ Q_ie Z o t1 kb vs h0 v_ s₂.heap L_ ∧ FrameEnd s o_ s₂ L_ ({ frames := 0, cells := 0, slots := 0, locals := 0 } : Room).cells ({ frames := 0, cells := 0, slots := 0, locals := 0 } : Room).slots) (s₁.setTop (entryFrame m #[(.ref o)] 1))
  refine own_go (s₁.setTop (mkF m 0 #[.val (.ref o)] [])) (fun t_ k_ => castTop (own_ef_ie m o) k_) ?_
  refine own_go (s₁.setTop (mkF m 1 #[.val (.ref o)] [(.ref o)])) (fun t_ k_ => XS.aloadN X0.here hx rfl (hb hby own_d_jdk_42_method_55_0) rfl rfl k_) ?_
  obtain ⟨T1, X1, e1, st1⟩ := getF X0 hx hZ hown (host := "") (Or.inl (hw _ (List.mem_of_getElem? (i := 37) rfl))) Via.refl e0 Vo (g := (mkF m 1 #[.val (.ref o)] [(.ref o)])) rfl rfl (hb hby own_d_jdk_42_method_55_1)
  refine own_go (T1.setTop (mkF m 4 #[.val (.ref o)] [(.ref t1)])) (fun t_ k_ => st1 _ k_) ?_
  obtain ⟨cl2, Ar2, q2, Sz2, Nz2, Hz2, Gz2⟩ := id (Ao)
  refine own_go (T1.setTop (mkF m 5 #[.val (.ref o)] [(.int (1 : Int32))])) (fun t_ k_ => X1.arraylength hx (by rw [e1]; exact Ar2.1) (State.isArrayOf_alike hZ.alike Ar2.2.1) (g := (mkF m 4 #[.val (.ref o)] [(.ref t1)])) rfl rfl (hb hby own_d_jdk_42_method_55_4) _ (by rw [len_of Sz2 Nz2]; exact k_)) ?_
  refine own_go (T1.setTop (mkF m 12 #[.val (.ref o)] [])) (fun t_ k_ => XS.ifYes X1.here hx rfl (pc0 := 5) (pc' := 12) rfl (hb hby own_d_jdk_42_method_55_5) rfl ((if0 _ _).trans (feq (by decide : ¬ ((1 : Int32) = (0 : Int32)))).2) (by decide) (by decide) k_) ?_
  refine own_go (T1.setTop (mkF m 13 #[.val (.ref o)] [(.int (0 : Int32))])) (fun t_ k_ => XS.iconst X1.here hx rfl (hb hby own_d_jdk_42_method_55_12) k_) ?_
  obtain ⟨fs, hr, hrun, hended, hW, hsame⟩ := X1.leave (v := some (.int (nar .boolean (0 : Int32)))) (fun h => by rw [Bd.returns] at h; cases h)
  refine ⟨_, _, retN X1 hx (t := .boolean) Bd.returns (by simp) (hb hby own_d_jdk_42_method_55_13) hr, hrun, hended, _, _, rfl, ?_, ⟨_, rfl⟩, hW, hsame.mono (by decide) (by decide)⟩
  show Q_ie Z o t1 kb vs h0 _ T1.heap _
  exact ⟨rfl, N0, e1⟩
theorem own_ef_tx (m : MethodId) (o : Addr) (q : Addr) : entryFrame m #[(.ref o), (.ref q)] 2 = mkF m 0 #[.val (.ref o), .val (.ref q)] [] := by first | (simp [entryFrame, mkF, argsToLocals, Value.category]; done) | rfl
theorem own_d_prog_44_method_3_0 : decode prog_44_method_3_code 0 = .ok (.aload_n 0, 1) := by decide +kernel
theorem own_d_prog_44_method_3_1 : decode prog_44_method_3_code 1 = .ok (.aload_n 1, 1) := by decide +kernel
theorem own_d_prog_44_method_3_2 : decode prog_44_method_3_code 2 = .ok (.invokestatic 16, 3) := by decide +kernel
theorem own_pd0 : parseMethodDescriptor "(Ljava/lang/Object;Ljava/lang/String;)Ljava/lang/Object;" = some ⟨[(.object "java/lang/Object"), (.object "java/lang/String")], some (.object "java/lang/Object")⟩ := by decide +kernel
theorem own_d_prog_44_method_3_5 : decode prog_44_method_3_code 5 = .ok (.pop, 1) := by decide +kernel
theorem own_d_prog_44_method_3_6 : decode prog_44_method_3_code 6 = .ok (.aload_n 0, 1) := by decide +kernel
theorem own_d_prog_44_method_3_7 : decode prog_44_method_3_code 7 = .ok (.invokevirtual 22, 3) := by decide +kernel
theorem own_pd1 : parseMethodDescriptor "()Z" = some ⟨[], some .boolean⟩ := by decide +kernel
theorem own_d_prog_44_method_3_10 : decode prog_44_method_3_code 10 = .ok (.ifCond .eq 10, 3) := by decide +kernel
theorem own_d_prog_44_method_3_20 : decode prog_44_method_3_code 20 = .ok (.aload_n 0, 1) := by decide +kernel
theorem own_d_prog_44_method_3_21 : decode prog_44_method_3_code 21 = .ok (.areturn, 1) := by decide +kernel
def Q_tx (Z : State) (o : Addr) (t1 : Addr) (kb : ClassId) (vs : List Value) (q : Addr) (h0 : Heap) (v_ : Option Value) (h : Heap) (L_ : List Loc) : Prop := v_ = some (.ref o) ∧ Fr Z.heap.size L_ ∧ (h = h0)
set_option maxRecDepth 65536 in
set_option maxHeartbeats 40000000 in
theorem rm_tx (l : Launch) (Z : State) (a0 : Array Value) (hw : ∀ d ∈ tables_1, d.before a0 Z = true) (ws : List Jvm.Cond) (o : Addr) (t1 : Addr) (kb : ClassId) (vs : List Value) (q : Addr) (h0 : Heap) (O : Ext Z.heap h0) (Xo : Exa Z h0 o "java/lang/String") (Vo : Fld Z h0 o "java/lang/String" "value" "[B" (.ref t1)) (Ao : Arv Z h0 t1 kb .byte 1 vs (.int 0)) :
    MetFree l (⟨"com/example/trailcaster/trailcaster/model/Checks", "text", "(Ljava/lang/String;Ljava/lang/String;)Ljava/lang/String;"⟩ : MethodName) (head1 (Jvm.Cond.code (⟨"com/example/trailcaster/trailcaster/model/Checks", "text", "(Ljava/lang/String;Ljava/lang/String;)Ljava/lang/String;"⟩ : MethodName) prog_44_method_3_code 2 (some (.object "java/lang/String")) :: ws) ({ frames := 1, cells := 0, slots := 0, locals := 13 } : Room)) (fun a_ U_ => a_ = #[(.ref o), (.ref q)] ∧ Z.Warmed39 U_.vm ∧ U_.heap = h0) (fun _ _ _ _ _ => True) (fun _ U_ o_ U2_ => ∃ v_ L_, o_ = .returned v_ ∧ Q_tx Z o t1 kb vs q h0 v_ U2_.heap L_ ∧ FrameEnd U_ o_ U2_ L_ ({ frames := 1, cells := 0, slots := 0, locals := 13 } : Room).cells ({ frames := 1, cells := 0, slots := 0, locals := 13 } : Room).slots) := by
  refine MetFree.of_bodySF (plainFor_of_name own_pn1) hisR ?_
  intro p e s m args below meth c s₁ Bd hml0 hP hK
  obtain ⟨rfl, hZ, hh⟩ := hP
  have hx := Bd.exec
  have hby := Bd.bytes
  have hml : c.maxLocals = 2 := hml0
  have hown : s.vm.findClass "com/example/trailcaster/trailcaster/model/Checks" = some m.cls := findClass_of_methodNamed Bd.named
  have hnm := (name_of_methodNamed Bd.named Bd.method).1
  have X0 : Stand p l e ({ frames := 1, cells := 0, slots := 0, locals := 13 } : Room) s m #[(.ref o), (.ref q)] below meth c s₁ [] 0 0 := Stand.of_body Bd
  have e0 : s₁.heap = h0 := by rw [← hh, Bd.state]; rfl
  have N0 := Fr.nil Z.heap.size
  show own_G p e below (fun o_ s₂ => ∃ v_ L_, o_ = .returned v_ ∧ Q_tx Z o t1 kb vs q h0 v_ s₂.heap L_ ∧ FrameEnd s o_ s₂ L_ ({ frames := 1, cells := 0, slots := 0, locals := 13 } : Room).cells ({ frames := 1, cells := 0, slots := 0, locals := 13 } : Room).slots) (s₁.setTop (entryFrame m #[(.ref o), (.ref q)] 2))
  refine own_go (s₁.setTop (mkF m 0 #[.val (.ref o), .val (.ref q)] [])) (fun t_ k_ => castTop (own_ef_tx m o q) k_) ?_
  refine own_go (s₁.setTop (mkF m 1 #[.val (.ref o), .val (.ref q)] [(.ref o)])) (fun t_ k_ => XS.aloadN X0.here hx rfl (hb hby own_d_prog_44_method_3_0) rfl rfl k_) ?_
  refine own_go (s₁.setTop (mkF m 2 #[.val (.ref o), .val (.ref q)] [(.ref q), (.ref o)])) (fun t_ k_ => XS.aloadN X0.here hx rfl (hb hby own_d_prog_44_method_3_1) rfl rfl k_) ?_
  obtain ⟨_, _, ⟨T1, Lu1, ku1, nu1⟩, -, X1, ⟨Lc1, hQ1, lu1, yu1, zu1⟩, st1⟩ := Jvm.LawKit.callS X0 hx (y := (⟨"com/example/trailcaster/trailcaster/model/Checks", "required", "(Ljava/lang/Object;Ljava/lang/String;)Ljava/lang/Object;"⟩ : MethodName)) hown (mvT hZ (hw _ (List.mem_of_getElem? (i := 29) rfl))) (mvT hZ (hw _ (List.mem_of_getElem? (i := 30) rfl))) (mvT hZ (hw _ (List.mem_of_getElem? (i := 27) rfl))) (mvT hZ (hw _ (List.mem_of_getElem? (i := 31) rfl))) (by decide) (backOf (W := 0) (rm_rq l Z a0 hw [] (o) (q) h0 O ) hZ (hw _ (List.mem_of_getElem? (i := 31) rfl)) (hw _ (List.mem_of_getElem? (i := 27) rfl)) (by decide) (by decide)) (g := (mkF m 2 #[.val (.ref o), .val (.ref q)] [(.ref q), (.ref o)])) rfl (by rw [hml]; rfl) (argsL := [(.ref o), (.ref q)]) (rest := []) (lenOf own_pd0 rfl) rfl (by show 2 * 0 + _ ≤ _; exact Nat.le_of_eq rfl) (hb hby own_d_prog_44_method_3_2) (fun _ _ => ⟨rfl, e0, (by decide : 0 + 0 ≤ _), (by decide : 0 + 0 ≤ _)⟩)
  dsimp only [Pt.U, Pt.locs, Pt.cells, Pt.slots] at X1 lu1 yu1 zu1 st1 hQ1
  subst lu1 yu1 zu1
  obtain ⟨rfl, N1q, e1⟩ := hQ1
  have N1 := Fr.app N0 N1q
  refine own_go (T1.setTop (mkF m 5 #[.val (.ref o), .val (.ref q)] [(.ref o)])) (fun t_ k_ => st1 _ k_) ?_
  refine own_go (T1.setTop (mkF m 6 #[.val (.ref o), .val (.ref q)] [])) (fun t_ k_ => XS.pop X1.here hx rfl (hb hby own_d_prog_44_method_3_5) rfl rfl k_) ?_
  refine own_go (T1.setTop (mkF m 7 #[.val (.ref o), .val (.ref q)] [(.ref o)])) (fun t_ k_ => XS.aloadN X1.here hx rfl (hb hby own_d_prog_44_method_3_6) rfl rfl k_) ?_
  obtain ⟨cq2, kq2, q2a, q2b, q2c⟩ := isOf hZ e1 Xo
  obtain ⟨_, _, ⟨T2, Lu2, ku2, nu2⟩, -, X2, ⟨Lc2, hQ2, lu2, yu2, zu2⟩, st2⟩ := X1.virtualBack hx (y := (⟨"java/lang/String", "isEmpty", "()Z"⟩ : MethodName)) (z := (⟨"java/lang/String", "isEmpty", "()Z"⟩ : MethodName)) hown (mvT hZ (hw _ (List.mem_of_getElem? (i := 32) rfl))) (mvT hZ (hw _ (List.mem_of_getElem? (i := 33) rfl))) (notFace_of_selects (args := #[]) (mvT hZ (hw _ (List.mem_of_getElem? (i := 35) rfl)))) (mvT hZ (hw _ (List.mem_of_getElem? (i := 35) rfl))) (mvT hZ (hw _ (List.mem_of_getElem? (i := 34) rfl))) (by decide) (backOf (W := 0) (rm_ie l Z a0 hw [] (o) (t1) (kb) (_) h0 O Xo Vo Ao) hZ (hw _ (List.mem_of_getElem? (i := 36) rfl)) (hw _ (List.mem_of_getElem? (i := 4) rfl)) (by decide) (by decide)) q2a q2c (g := (mkF m 7 #[.val (.ref o), .val (.ref q)] [(.ref o)])) rfl (by rw [hml]; rfl) (Steps.refl _) (argsL := []) (rest := []) (lenOf own_pd1 rfl) rfl (by show 2 * 0 + _ ≤ _; exact Nat.le_of_eq rfl) (hb hby own_d_prog_44_method_3_7) (fun _ _ => ⟨rfl, e1, (by decide : 0 + 0 ≤ _), (by decide : 0 + 0 ≤ _)⟩)
  dsimp only [Pt.U, Pt.locs, Pt.cells, Pt.slots] at X2 lu2 yu2 zu2 st2 hQ2
  subst lu2 yu2 zu2
  obtain ⟨rfl, N2q, e2⟩ := hQ2
  have N2 := Fr.app N1 N2q
  refine own_go (T2.setTop (mkF m 10 #[.val (.ref o), .val (.ref q)] [(.int (0 : Int32))])) (fun t_ k_ => st2.trans k_) ?_
  refine own_go (T2.setTop (mkF m 20 #[.val (.ref o), .val (.ref q)] [])) (fun t_ k_ => XS.ifYes X2.here hx rfl (pc0 := 10) (pc' := 20) rfl (hb hby own_d_prog_44_method_3_10) rfl ((if0 _ _).trans (teq (by decide : (0 : Int32) = (0 : Int32))).1) (by decide) (by decide) k_) ?_
  refine own_go (T2.setTop (mkF m 21 #[.val (.ref o), .val (.ref q)] [(.ref o)])) (fun t_ k_ => XS.aloadN X2.here hx rfl (hb hby own_d_prog_44_method_3_20) rfl rfl k_) ?_
  obtain ⟨fs, hr, hrun, hended, hW, hsame⟩ := X2.leave (v := some (.ref o)) (fun h => by rw [Bd.returns] at h; cases h)
  refine ⟨_, _, Jvm.RoadKit.retOut X2 hx Bd.returns rfl (Or.inr (Or.inr (Or.inr (Or.inr ⟨rfl, rfl, rfl⟩)))) (hb hby own_d_prog_44_method_3_21) hr, hrun, hended, _, _, rfl, ?_, ⟨_, rfl⟩, hW, hsame.mono (by decide) (by decide)⟩
  show Q_tx Z o t1 kb vs q h0 _ T2.heap _
  exact ⟨rfl, N2, e2⟩
theorem own_ef_ot (m : MethodId) (q : Addr) : entryFrame m #[.null, (.ref q)] 3 = mkF m 0 #[.val .null, .val (.ref q), .unset] [] := by first | (simp [entryFrame, mkF, argsToLocals, Value.category]; done) | rfl
theorem own_d_prog_44_method_4_0 : decode prog_44_method_4_code 0 = .ok (.aload_n 0, 1) := by decide +kernel
theorem own_d_prog_44_method_4_1 : decode prog_44_method_4_code 1 = .ok (.astore_n 2, 1) := by decide +kernel
theorem own_d_prog_44_method_4_2 : decode prog_44_method_4_code 2 = .ok (.aload_n 0, 1) := by decide +kernel
theorem own_d_prog_44_method_4_3 : decode prog_44_method_4_code 3 = .ok (.ifnull 9, 3) := by decide +kernel
theorem own_d_prog_44_method_4_12 : decode prog_44_method_4_code 12 = .ok (.aload_n 2, 1) := by decide +kernel
theorem own_d_prog_44_method_4_13 : decode prog_44_method_4_code 13 = .ok (.areturn, 1) := by decide +kernel
def Q_ot (Z : State) (q : Addr) (h0 : Heap) (v_ : Option Value) (h : Heap) (L_ : List Loc) : Prop := v_ = some .null ∧ Fr Z.heap.size L_ ∧ (h = h0)
set_option maxRecDepth 65536 in
set_option maxHeartbeats 40000000 in
theorem rm_ot (l : Launch) (Z : State) (a0 : Array Value) (hw : ∀ d ∈ tables_1, d.before a0 Z = true) (ws : List Jvm.Cond) (q : Addr) (h0 : Heap) (O : Ext Z.heap h0) :
    MetFree l (⟨"com/example/trailcaster/trailcaster/model/Checks", "optionalText", "(Ljava/lang/String;Ljava/lang/String;)Ljava/lang/String;"⟩ : MethodName) (head1 (Jvm.Cond.code (⟨"com/example/trailcaster/trailcaster/model/Checks", "optionalText", "(Ljava/lang/String;Ljava/lang/String;)Ljava/lang/String;"⟩ : MethodName) prog_44_method_4_code 3 (some (.object "java/lang/String")) :: ws) ({ frames := 0, cells := 0, slots := 0, locals := 0 } : Room)) (fun a_ U_ => a_ = #[.null, (.ref q)] ∧ Z.Warmed39 U_.vm ∧ U_.heap = h0) (fun _ _ _ _ _ => True) (fun _ U_ o_ U2_ => ∃ v_ L_, o_ = .returned v_ ∧ Q_ot Z q h0 v_ U2_.heap L_ ∧ FrameEnd U_ o_ U2_ L_ ({ frames := 0, cells := 0, slots := 0, locals := 0 } : Room).cells ({ frames := 0, cells := 0, slots := 0, locals := 0 } : Room).slots) := by
  refine MetFree.of_bodySF (plainFor_of_name own_pn1) hisR ?_
  intro p e s m args below meth c s₁ Bd hml0 hP hK
  obtain ⟨rfl, hZ, hh⟩ := hP
  have hx := Bd.exec
  have hby := Bd.bytes
  have hml : c.maxLocals = 3 := hml0
  have hown : s.vm.findClass "com/example/trailcaster/trailcaster/model/Checks" = some m.cls := findClass_of_methodNamed Bd.named
  have hnm := (name_of_methodNamed Bd.named Bd.method).1
  have X0 : Stand p l e ({ frames := 0, cells := 0, slots := 0, locals := 0 } : Room) s m #[.null, (.ref q)] below meth c s₁ [] 0 0 := Stand.of_body Bd
  have e0 : s₁.heap = h0 := by rw [← hh, Bd.state]; rfl
  have N0 := Fr.nil Z.heap.size
  show own_G p e below (fun o_ s₂ => ∃ v_ L_, o_ = .returned v_ ∧ Q_ot Z q h0 v_ s₂.heap L_ ∧ FrameEnd s o_ s₂ L_ ({ frames := 0, cells := 0, slots := 0, locals := 0 } : Room).cells ({ frames := 0, cells := 0, slots := 0, locals := 0 } : Room).slots) (s₁.setTop (entryFrame m #[.null, (.ref q)] 3))
  refine own_go (s₁.setTop (mkF m 0 #[.val .null, .val (.ref q), .unset] [])) (fun t_ k_ => castTop (own_ef_ot m q) k_) ?_
  refine own_go (s₁.setTop (mkF m 1 #[.val .null, .val (.ref q), .unset] [.null])) (fun t_ k_ => XS.aloadN X0.here hx rfl (hb hby own_d_prog_44_method_4_0) rfl rfl k_) ?_
  refine own_go (s₁.setTop (mkF m 2 #[.val .null, .val (.ref q), .val .null] [])) (fun t_ k_ => XS.astoreN X0.here hx rfl (hb hby own_d_prog_44_method_4_1) rfl rfl (l' := #[.val .null, .val (.ref q), .val .null]) rfl k_) ?_
  refine own_go (s₁.setTop (mkF m 3 #[.val .null, .val (.ref q), .val .null] [.null])) (fun t_ k_ => XS.aloadN X0.here hx rfl (hb hby own_d_prog_44_method_4_2) rfl rfl k_) ?_
  refine own_go (s₁.setTop (mkF m 12 #[.val .null, .val (.ref q), .val .null] [])) (fun t_ k_ => XS.ifnullYes X0.here hx rfl (pc0 := 3) (pc' := 12) rfl (hb hby own_d_prog_44_method_4_3) rfl (by decide) (by decide) k_) ?_
  refine own_go (s₁.setTop (mkF m 13 #[.val .null, .val (.ref q), .val .null] [.null])) (fun t_ k_ => XS.aloadN X0.here hx rfl (hb hby own_d_prog_44_method_4_12) rfl rfl k_) ?_
  obtain ⟨fs, hr, hrun, hended, hW, hsame⟩ := X0.leave (v := some .null) (fun h => by rw [Bd.returns] at h; cases h)
  refine ⟨_, _, Jvm.RoadKit.retOut X0 hx Bd.returns rfl (Or.inr (Or.inr (Or.inr (Or.inr ⟨rfl, rfl, rfl⟩)))) (hb hby own_d_prog_44_method_4_13) hr, hrun, hended, _, _, rfl, ?_, ⟨_, rfl⟩, hW, hsame.mono (by decide) (by decide)⟩
  show Q_ot Z q h0 _ s₁.heap _
  exact ⟨rfl, N0, e0⟩
theorem own_pn3 : plainName "com/example/trailcaster/trailcaster/model/CodedValue" = true := by first | (simp [plainName, overriddenIn]; done) | decide +kernel
theorem own_ef_cv (m : MethodId) (a : Addr) (oA : Addr) (oB : Addr) (oC : Addr) : entryFrame m #[(.ref a), (.ref oA), (.ref oB), (.ref oC)] 4 = mkF m 0 #[.val (.ref a), .val (.ref oA), .val (.ref oB), .val (.ref oC)] [] := by first | (simp [entryFrame, mkF, argsToLocals, Value.category]; done) | rfl
theorem own_d_prog_45_method_1_0 : decode prog_45_method_1_code 0 = .ok (.aload_n 0, 1) := by decide +kernel
theorem own_d_prog_45_method_1_1 : decode prog_45_method_1_code 1 = .ok (.invokespecial 1, 3) := by decide +kernel
theorem own_pd2 : parseMethodDescriptor "()V" = some ⟨[], none⟩ := by decide +kernel
theorem own_d_prog_45_method_1_4 : decode prog_45_method_1_code 4 = .ok (.aload_n 1, 1) := by decide +kernel
theorem own_d_prog_45_method_1_5 : decode prog_45_method_1_code 5 = .ok (.ldc 7, 2) := by decide +kernel
theorem own_lit_CodedValue_7 : ∀ c ∈ ([99, 111, 100, 101] : List Int32), ¬ c < 0 ∧ ¬ (255 : Int32) < c := by decide +kernel
theorem own_d_prog_45_method_1_7 : decode prog_45_method_1_code 7 = .ok (.invokestatic 9, 3) := by decide +kernel
theorem own_pd3 : parseMethodDescriptor "(Ljava/lang/String;Ljava/lang/String;)Ljava/lang/String;" = some ⟨[(.object "java/lang/String"), (.object "java/lang/String")], some (.object "java/lang/String")⟩ := by decide +kernel
theorem own_d_prog_45_method_1_10 : decode prog_45_method_1_code 10 = .ok (.pop, 1) := by decide +kernel
theorem own_d_prog_45_method_1_11 : decode prog_45_method_1_code 11 = .ok (.aload_n 2, 1) := by decide +kernel
theorem own_d_prog_45_method_1_12 : decode prog_45_method_1_code 12 = .ok (.ldc 15, 2) := by decide +kernel
theorem own_lit_CodedValue_15 : ∀ c ∈ ([99, 111, 100, 101, 83, 121, 115, 116, 101, 109, 78, 97, 109, 101] : List Int32), ¬ c < 0 ∧ ¬ (255 : Int32) < c := by decide +kernel
theorem own_d_prog_45_method_1_14 : decode prog_45_method_1_code 14 = .ok (.invokestatic 9, 3) := by decide +kernel
theorem own_d_prog_45_method_1_17 : decode prog_45_method_1_code 17 = .ok (.pop, 1) := by decide +kernel
theorem own_d_prog_45_method_1_18 : decode prog_45_method_1_code 18 = .ok (.aload_n 3, 1) := by decide +kernel
theorem own_d_prog_45_method_1_19 : decode prog_45_method_1_code 19 = .ok (.ldc 17, 2) := by decide +kernel
theorem own_lit_CodedValue_17 : ∀ c ∈ ([111, 114, 105, 103, 105, 110, 97, 108, 84, 101, 120, 116] : List Int32), ¬ c < 0 ∧ ¬ (255 : Int32) < c := by decide +kernel
theorem own_d_prog_45_method_1_21 : decode prog_45_method_1_code 21 = .ok (.invokestatic 9, 3) := by decide +kernel
theorem own_d_prog_45_method_1_24 : decode prog_45_method_1_code 24 = .ok (.pop, 1) := by decide +kernel
theorem own_d_prog_45_method_1_25 : decode prog_45_method_1_code 25 = .ok (.aload_n 0, 1) := by decide +kernel
theorem own_d_prog_45_method_1_26 : decode prog_45_method_1_code 26 = .ok (.aload_n 1, 1) := by decide +kernel
theorem own_d_prog_45_method_1_27 : decode prog_45_method_1_code 27 = .ok (.putfield 19, 3) := by decide +kernel
theorem own_d_prog_45_method_1_30 : decode prog_45_method_1_code 30 = .ok (.aload_n 0, 1) := by decide +kernel
theorem own_d_prog_45_method_1_31 : decode prog_45_method_1_code 31 = .ok (.aload_n 2, 1) := by decide +kernel
theorem own_d_prog_45_method_1_32 : decode prog_45_method_1_code 32 = .ok (.putfield 24, 3) := by decide +kernel
theorem own_d_prog_45_method_1_35 : decode prog_45_method_1_code 35 = .ok (.aload_n 0, 1) := by decide +kernel
theorem own_d_prog_45_method_1_36 : decode prog_45_method_1_code 36 = .ok (.aload_n 3, 1) := by decide +kernel
theorem own_d_prog_45_method_1_37 : decode prog_45_method_1_code 37 = .ok (.putfield 26, 3) := by decide +kernel
theorem own_d_prog_45_method_1_40 : decode prog_45_method_1_code 40 = .ok (.return_, 1) := by decide +kernel
def Q_cv (Z : State) (a : Addr) (oA : Addr) (tA : Addr) (kA : ClassId) (vsA : List Value) (oB : Addr) (tB : Addr) (kB : ClassId) (vsB : List Value) (oC : Addr) (tC : Addr) (kC : ClassId) (vsC : List Value) (h0 : Heap) (v_ : Option Value) (h : Heap) (L_ : List Loc) : Prop := v_ = none ∧ Fr Z.heap.size L_ ∧ (Keep h0 h [a])
set_option maxRecDepth 65536 in
set_option maxHeartbeats 40000000 in
theorem rm_cv (l : Launch) (Z : State) (a0 : Array Value) (hw : ∀ d ∈ tables_1, d.before a0 Z = true) (ws : List Jvm.Cond) (a : Addr) (oA : Addr) (tA : Addr) (kA : ClassId) (vsA : List Value) (oB : Addr) (tB : Addr) (kB : ClassId) (vsB : List Value) (oC : Addr) (tC : Addr) (kC : ClassId) (vsC : List Value) (h0 : Heap) (O : Ext Z.heap h0) (X : Exa Z h0 a "com/example/trailcaster/trailcaster/model/CodedValue") (F0 : Fld Z h0 a "com/example/trailcaster/trailcaster/model/CodedValue" "code" "Ljava/lang/String;" .null) (F1 : Fld Z h0 a "com/example/trailcaster/trailcaster/model/CodedValue" "codeSystemName" "Ljava/lang/String;" .null) (F2 : Fld Z h0 a "com/example/trailcaster/trailcaster/model/CodedValue" "originalText" "Ljava/lang/String;" .null) (ga : Z.heap.size ≤ a) (XoA : Exa Z h0 oA "java/lang/String") (VoA : Fld Z h0 oA "java/lang/String" "value" "[B" (.ref tA)) (AoA : Arv Z h0 tA kA .byte 1 vsA (.int 0)) (XoB : Exa Z h0 oB "java/lang/String") (VoB : Fld Z h0 oB "java/lang/String" "value" "[B" (.ref tB)) (AoB : Arv Z h0 tB kB .byte 1 vsB (.int 0)) (XoC : Exa Z h0 oC "java/lang/String") (VoC : Fld Z h0 oC "java/lang/String" "value" "[B" (.ref tC)) (AoC : Arv Z h0 tC kC .byte 1 vsC (.int 0)) :
    MetFree l (⟨"com/example/trailcaster/trailcaster/model/CodedValue", "<init>", "(Ljava/lang/String;Ljava/lang/String;Ljava/lang/String;)V"⟩ : MethodName) (head1 (Jvm.Cond.code (⟨"com/example/trailcaster/trailcaster/model/CodedValue", "<init>", "(Ljava/lang/String;Ljava/lang/String;Ljava/lang/String;)V"⟩ : MethodName) prog_45_method_1_code 4 none :: ws) ({ frames := 2, cells := 6, slots := 132, locals := 26 } : Room)) (fun a_ U_ => a_ = #[(.ref a), (.ref oA), (.ref oB), (.ref oC)] ∧ Z.Warmed39 U_.vm ∧ U_.heap = h0 ∧ CHv Z consts_1 U_.vm h0) (fun _ _ _ _ _ => True) (fun _ U_ o_ U2_ => ∃ v_ L_, o_ = .returned v_ ∧ Q_cv Z a oA tA kA vsA oB tB kB vsB oC tC kC vsC h0 v_ U2_.heap L_ ∧ CHr Z consts_1 U_.vm U_.heap U2_.vm U2_.heap ∧ ReturnedEndW U_ o_ U2_ L_ ({ frames := 2, cells := 6, slots := 132, locals := 26 } : Room).cells ({ frames := 2, cells := 6, slots := 132, locals := 26 } : Room).slots) := by
  refine MetFree.of_bodySF (plainFor_of_name own_pn3) hisR ?_
  intro p e s m args below meth c s₁ Bd hml0 hP hK
  obtain ⟨rfl, hZ, hh, hCH⟩ := hP
  have hx := Bd.exec
  have hby := Bd.bytes
  have hml : c.maxLocals = 4 := hml0
  have hown : s.vm.findClass "com/example/trailcaster/trailcaster/model/CodedValue" = some m.cls := findClass_of_methodNamed Bd.named
  have hnm := (name_of_methodNamed Bd.named Bd.method).1
  have X0 : Stand p l e ({ frames := 2, cells := 6, slots := 132, locals := 26 } : Room) (s.setVm s.vm) m #[(.ref a), (.ref oA), (.ref oB), (.ref oC)] below meth c s₁ [] 0 0 := Stand.of_body Bd
  have e0 : s₁.heap = h0 := by rw [← hh, Bd.state]; rfl
  have N0 := Fr.nil Z.heap.size
  have hS : s.Since s.vm s.heap.size := (State.WarmedH.refl _).since _
  have hk : s.heap.size ≤ h0.size := Nat.le_of_eq (congrArg Array.size hh)
  have hZ : Z.Warmed39 (s.setVm s.vm).vm := hZ
  have hown : (s.setVm s.vm).vm.findClass "com/example/trailcaster/trailcaster/model/CodedValue" = some m.cls := hown
  show own_G p e below (fun o_ s₂ => ∃ v_ L_, o_ = .returned v_ ∧ Q_cv Z a oA tA kA vsA oB tB kB vsB oC tC kC vsC h0 v_ s₂.heap L_ ∧ CHr Z consts_1 s.vm s.heap s₂.vm s₂.heap ∧ ReturnedEndW s o_ s₂ L_ ({ frames := 2, cells := 6, slots := 132, locals := 26 } : Room).cells ({ frames := 2, cells := 6, slots := 132, locals := 26 } : Room).slots) (s₁.setTop (entryFrame m #[(.ref a), (.ref oA), (.ref oB), (.ref oC)] 4))
  refine own_go (s₁.setTop (mkF m 0 #[.val (.ref a), .val (.ref oA), .val (.ref oB), .val (.ref oC)] [])) (fun t_ k_ => castTop (own_ef_cv m a oA oB oC) k_) ?_
  have R0 := CHr.refl hCH
  have hEW : EW Z a0 consts_1 := own_EW hw
  have Sa : Safe Z consts_1 s.vm h0 a := Safe.exa hZ.alike X (by decide) (by decide)
  refine own_go (s₁.setTop (mkF m 1 #[.val (.ref a), .val (.ref oA), .val (.ref oB), .val (.ref oC)] [(.ref a)])) (fun t_ k_ => XS.aloadN X0.here hx rfl (hb hby own_d_prog_45_method_1_0) rfl rfl k_) ?_
  obtain ⟨_, _, ⟨T1, Lu1, ku1, nu1⟩, -, X1, ⟨Lc1, hQ1, lu1, yu1, zu1⟩, st1⟩ := X0.specialBack hx (y := (⟨"java/lang/Record", "<init>", "()V"⟩ : MethodName)) rfl hown (mvT hZ (hw _ (List.mem_of_getElem? (i := 16) rfl))) (mvT hZ (hw _ (List.mem_of_getElem? (i := 17) rfl))) (mvT hZ (hw _ (List.mem_of_getElem? (i := 20) rfl))) (by decide) (backOf (W := 0) (rm_rec l Z a0 hw [] (a) h0 O ) hZ (hw _ (List.mem_of_getElem? (i := 20) rfl)) (hw _ (List.mem_of_getElem? (i := 19) rfl)) (by decide) (by decide)) (g := (mkF m 1 #[.val (.ref a), .val (.ref oA), .val (.ref oB), .val (.ref oC)] [(.ref a)])) rfl (by rw [hml]; rfl) (Steps.refl _) (a := a) (argsL := []) (rest := []) (lenOf own_pd2 rfl) rfl (by show 2 * 0 + _ ≤ _; exact Nat.le_of_eq rfl) (hb hby own_d_prog_45_method_1_1) (fun _ _ => ⟨rfl, e0, (by decide : 0 + 0 ≤ _), (by decide : 0 + 0 ≤ _)⟩)
  dsimp only [Pt.U, Pt.locs, Pt.cells, Pt.slots] at X1 lu1 yu1 zu1 st1 hQ1
  subst lu1 yu1 zu1
  obtain ⟨rfl, N1q, e1⟩ := hQ1
  have N1 := Fr.app N0 N1q
  refine own_go (T1.setTop (mkF m 4 #[.val (.ref a), .val (.ref oA), .val (.ref oB), .val (.ref oC)] [])) (fun t_ k_ => st1.trans k_) ?_
  refine own_go (T1.setTop (mkF m 5 #[.val (.ref a), .val (.ref oA), .val (.ref oB), .val (.ref oC)] [(.ref oA)])) (fun t_ k_ => XS.aloadN X1.here hx rfl (hb hby own_d_prog_45_method_1_4) rfl rfl k_) ?_
  obtain ⟨a2, T2, h2, k2, t2, kb2, X2, e2, E2, hS, hk, hZ, hown, A2, C2, V2, B2, lt2, ltb2, CC2, Li2, ne2, st2⟩ := ldcCH (EL := consts_1) X1 hx hZ hown (hw _ (List.mem_of_getElem? (i := 24) rfl)) (fun d hd => hw d (own_sA d hd)) e1 hS hk hEW (List.mem_of_getElem? (i := 0) rfl) R0.1 (vs := (([99, 111, 100, 101] : List Int32).map (fun c => c.toInt8.toInt32)).map Value.int) (z := 4) (by exact ⟨by decide, by rfl⟩) (by decide) (by rfl) (g := (mkF m 5 #[.val (.ref a), .val (.ref oA), .val (.ref oB), .val (.ref oC)] [(.ref oA)])) rfl (hb hby own_d_prog_45_method_1_5) (n := 16) (by decide) (by decide) (by decide) (by decide)
  have K2 : Keep h0 h2 [a] := (Keep.refl h0 [a]).ext E2
  have O2 := own_ext O E2
  have R2 := R0.trans CC2
  refine own_go (T2.setTop (mkF m 7 #[.val (.ref a), .val (.ref oA), .val (.ref oB), .val (.ref oC)] [(.ref a2), (.ref oA)])) (fun t_ k_ => st2 _ k_) ?_
  have Fz3 := (XoA.ext E2)
  have Fz4 := (VoA.ext E2)
  have Fz5 := (AoA.ext E2)
  obtain ⟨_, _, ⟨T6, Lu6, ku6, nu6⟩, -, X6, ⟨Lc6, hQ6, lu6, yu6, zu6⟩, st6⟩ := Jvm.LawKit.callS X2 hx (y := (⟨"com/example/trailcaster/trailcaster/model/Checks", "text", "(Ljava/lang/String;Ljava/lang/String;)Ljava/lang/String;"⟩ : MethodName)) hown (mvT hZ (hw _ (List.mem_of_getElem? (i := 25) rfl))) (mvT hZ (hw _ (List.mem_of_getElem? (i := 26) rfl))) (mvT hZ (hw _ (List.mem_of_getElem? (i := 27) rfl))) (mvT hZ (hw _ (List.mem_of_getElem? (i := 28) rfl))) (by decide) (backOf (W := 0) (rm_tx l Z a0 hw [] (oA) (tA) (kA) (_) (a2) h2 O2 Fz3 Fz4 Fz5) hZ (hw _ (List.mem_of_getElem? (i := 28) rfl)) (hw _ (List.mem_of_getElem? (i := 27) rfl)) (by decide) (by decide)) (g := (mkF m 7 #[.val (.ref a), .val (.ref oA), .val (.ref oB), .val (.ref oC)] [(.ref a2), (.ref oA)])) rfl (by rw [hml]; rfl) (argsL := [(.ref oA), (.ref a2)]) (rest := []) (lenOf own_pd3 rfl) rfl (by show 2 * 0 + _ ≤ _; exact Nat.le_of_eq rfl) (hb hby own_d_prog_45_method_1_7) (fun _ _ => ⟨rfl, e2, (by decide : 2 + 0 ≤ _), (by decide : 20 + 0 ≤ _)⟩)
  dsimp only [Pt.U, Pt.locs, Pt.cells, Pt.slots] at X6 lu6 yu6 zu6 st6 hQ6
  subst lu6 yu6 zu6
  obtain ⟨rfl, N6q, e6⟩ := hQ6
  have N6 := Fr.app N1 N6q
  refine own_go (T6.setTop (mkF m 10 #[.val (.ref a), .val (.ref oA), .val (.ref oB), .val (.ref oC)] [(.ref oA)])) (fun t_ k_ => st6 _ k_) ?_
  refine own_go (T6.setTop (mkF m 11 #[.val (.ref a), .val (.ref oA), .val (.ref oB), .val (.ref oC)] [])) (fun t_ k_ => XS.pop X6.here hx rfl (hb hby own_d_prog_45_method_1_10) rfl rfl k_) ?_
  refine own_go (T6.setTop (mkF m 12 #[.val (.ref a), .val (.ref oA), .val (.ref oB), .val (.ref oC)] [(.ref oB)])) (fun t_ k_ => XS.aloadN X6.here hx rfl (hb hby own_d_prog_45_method_1_11) rfl rfl k_) ?_
  obtain ⟨a7, T7, h7, k7, t7, kb7, X7, e7, E7, hS, hk, hZ, hown, A7, C7, V7, B7, lt7, ltb7, CC7, Li7, ne7, st7⟩ := ldcCH (EL := consts_1) X6 hx hZ hown (hw _ (List.mem_of_getElem? (i := 38) rfl)) (fun d hd => hw d (own_sA d hd)) e6 hS hk hEW (List.mem_of_getElem? (i := 1) rfl) R2.1 (vs := (([99, 111, 100, 101, 83, 121, 115, 116, 101, 109, 78, 97, 109, 101] : List Int32).map (fun c => c.toInt8.toInt32)).map Value.int) (z := 14) (by exact ⟨by decide, by rfl⟩) (by decide) (by rfl) (g := (mkF m 12 #[.val (.ref a), .val (.ref oA), .val (.ref oB), .val (.ref oC)] [(.ref oB)])) rfl (hb hby own_d_prog_45_method_1_12) (n := 56) (by decide) (by decide) (by decide) (by decide)
  have K7 : Keep h0 h7 [a] := K2.ext E7
  have O7 := own_ext O2 E7
  have R7 := R2.trans CC7
  refine own_go (T7.setTop (mkF m 14 #[.val (.ref a), .val (.ref oA), .val (.ref oB), .val (.ref oC)] [(.ref a7), (.ref oB)])) (fun t_ k_ => st7 _ k_) ?_
  have Fz8 := ((XoB.ext E2).ext E7)
  have Fz9 := ((VoB.ext E2).ext E7)
  have Fz10 := ((AoB.ext E2).ext E7)
  obtain ⟨_, _, ⟨T11, Lu11, ku11, nu11⟩, -, X11, ⟨Lc11, hQ11, lu11, yu11, zu11⟩, st11⟩ := Jvm.LawKit.callS X7 hx (y := (⟨"com/example/trailcaster/trailcaster/model/Checks", "text", "(Ljava/lang/String;Ljava/lang/String;)Ljava/lang/String;"⟩ : MethodName)) hown (mvT hZ (hw _ (List.mem_of_getElem? (i := 25) rfl))) (mvT hZ (hw _ (List.mem_of_getElem? (i := 26) rfl))) (mvT hZ (hw _ (List.mem_of_getElem? (i := 27) rfl))) (mvT hZ (hw _ (List.mem_of_getElem? (i := 28) rfl))) (by decide) (backOf (W := 0) (rm_tx l Z a0 hw [] (oB) (tB) (kB) (_) (a7) h7 O7 Fz8 Fz9 Fz10) hZ (hw _ (List.mem_of_getElem? (i := 28) rfl)) (hw _ (List.mem_of_getElem? (i := 27) rfl)) (by decide) (by decide)) (g := (mkF m 14 #[.val (.ref a), .val (.ref oA), .val (.ref oB), .val (.ref oC)] [(.ref a7), (.ref oB)])) rfl (by rw [hml]; rfl) (argsL := [(.ref oB), (.ref a7)]) (rest := []) (lenOf own_pd3 rfl) rfl (by show 2 * 0 + _ ≤ _; exact Nat.le_of_eq rfl) (hb hby own_d_prog_45_method_1_14) (fun _ _ => ⟨rfl, e7, (by decide : 4 + 0 ≤ _), (by decide : 80 + 0 ≤ _)⟩)
  dsimp only [Pt.U, Pt.locs, Pt.cells, Pt.slots] at X11 lu11 yu11 zu11 st11 hQ11
  subst lu11 yu11 zu11
  obtain ⟨rfl, N11q, e11⟩ := hQ11
  have N11 := Fr.app N6 N11q
  refine own_go (T11.setTop (mkF m 17 #[.val (.ref a), .val (.ref oA), .val (.ref oB), .val (.ref oC)] [(.ref oB)])) (fun t_ k_ => st11 _ k_) ?_
  refine own_go (T11.setTop (mkF m 18 #[.val (.ref a), .val (.ref oA), .val (.ref oB), .val (.ref oC)] [])) (fun t_ k_ => XS.pop X11.here hx rfl (hb hby own_d_prog_45_method_1_17) rfl rfl k_) ?_
  refine own_go (T11.setTop (mkF m 19 #[.val (.ref a), .val (.ref oA), .val (.ref oB), .val (.ref oC)] [(.ref oC)])) (fun t_ k_ => XS.aloadN X11.here hx rfl (hb hby own_d_prog_45_method_1_18) rfl rfl k_) ?_
  obtain ⟨a12, T12, h12, k12, t12, kb12, X12, e12, E12, hS, hk, hZ, hown, A12, C12, V12, B12, lt12, ltb12, CC12, Li12, ne12, st12⟩ := ldcCH (EL := consts_1) X11 hx hZ hown (hw _ (List.mem_of_getElem? (i := 39) rfl)) (fun d hd => hw d (own_sA d hd)) e11 hS hk hEW (List.mem_of_getElem? (i := 2) rfl) R7.1 (vs := (([111, 114, 105, 103, 105, 110, 97, 108, 84, 101, 120, 116] : List Int32).map (fun c => c.toInt8.toInt32)).map Value.int) (z := 12) (by exact ⟨by decide, by rfl⟩) (by decide) (by rfl) (g := (mkF m 19 #[.val (.ref a), .val (.ref oA), .val (.ref oB), .val (.ref oC)] [(.ref oC)])) rfl (hb hby own_d_prog_45_method_1_19) (n := 48) (by decide) (by decide) (by decide) (by decide)
  have K12 : Keep h0 h12 [a] := K7.ext E12
  have O12 := own_ext O7 E12
  have R12 := R7.trans CC12
  refine own_go (T12.setTop (mkF m 21 #[.val (.ref a), .val (.ref oA), .val (.ref oB), .val (.ref oC)] [(.ref a12), (.ref oC)])) (fun t_ k_ => st12 _ k_) ?_
  have Fz13 := (((XoC.ext E2).ext E7).ext E12)
  have Fz14 := (((VoC.ext E2).ext E7).ext E12)
  have Fz15 := (((AoC.ext E2).ext E7).ext E12)
  obtain ⟨_, _, ⟨T16, Lu16, ku16, nu16⟩, -, X16, ⟨Lc16, hQ16, lu16, yu16, zu16⟩, st16⟩ := Jvm.LawKit.callS X12 hx (y := (⟨"com/example/trailcaster/trailcaster/model/Checks", "text", "(Ljava/lang/String;Ljava/lang/String;)Ljava/lang/String;"⟩ : MethodName)) hown (mvT hZ (hw _ (List.mem_of_getElem? (i := 25) rfl))) (mvT hZ (hw _ (List.mem_of_getElem? (i := 26) rfl))) (mvT hZ (hw _ (List.mem_of_getElem? (i := 27) rfl))) (mvT hZ (hw _ (List.mem_of_getElem? (i := 28) rfl))) (by decide) (backOf (W := 0) (rm_tx l Z a0 hw [] (oC) (tC) (kC) (_) (a12) h12 O12 Fz13 Fz14 Fz15) hZ (hw _ (List.mem_of_getElem? (i := 28) rfl)) (hw _ (List.mem_of_getElem? (i := 27) rfl)) (by decide) (by decide)) (g := (mkF m 21 #[.val (.ref a), .val (.ref oA), .val (.ref oB), .val (.ref oC)] [(.ref a12), (.ref oC)])) rfl (by rw [hml]; rfl) (argsL := [(.ref oC), (.ref a12)]) (rest := []) (lenOf own_pd3 rfl) rfl (by show 2 * 0 + _ ≤ _; exact Nat.le_of_eq rfl) (hb hby own_d_prog_45_method_1_21) (fun _ _ => ⟨rfl, e12, (by decide : 6 + 0 ≤ _), (by decide : 132 + 0 ≤ _)⟩)
  dsimp only [Pt.U, Pt.locs, Pt.cells, Pt.slots] at X16 lu16 yu16 zu16 st16 hQ16
  subst lu16 yu16 zu16
  obtain ⟨rfl, N16q, e16⟩ := hQ16
  have N16 := Fr.app N11 N16q
  refine own_go (T16.setTop (mkF m 24 #[.val (.ref a), .val (.ref oA), .val (.ref oB), .val (.ref oC)] [(.ref oC)])) (fun t_ k_ => st16 _ k_) ?_
  refine own_go (T16.setTop (mkF m 25 #[.val (.ref a), .val (.ref oA), .val (.ref oB), .val (.ref oC)] [])) (fun t_ k_ => XS.pop X16.here hx rfl (hb hby own_d_prog_45_method_1_24) rfl rfl k_) ?_
  refine own_go (T16.setTop (mkF m 26 #[.val (.ref a), .val (.ref oA), .val (.ref oB), .val (.ref oC)] [(.ref a)])) (fun t_ k_ => XS.aloadN X16.here hx rfl (hb hby own_d_prog_45_method_1_25) rfl rfl k_) ?_
  refine own_go (T16.setTop (mkF m 27 #[.val (.ref a), .val (.ref oA), .val (.ref oB), .val (.ref oC)] [(.ref oA), (.ref a)])) (fun t_ k_ => XS.aloadN X16.here hx rfl (hb hby own_d_prog_45_method_1_26) rfl rfl k_) ?_
  have Fz17 := (((X.ext E2).ext E7).ext E12)
  have Fz18 := (((F0.ext E2).ext E7).ext E12)
  obtain ⟨T19, h19, X19, e19, W19, st19⟩ := putF X16 hx hZ hown (host := "") (Or.inl (hw _ (List.mem_of_getElem? (i := 40) rfl))) Via.refl e16 Fz18 Fz17 (Or.inr ⟨(hw _ (List.mem_of_getElem? (i := 41) rfl)), rfl, hnm⟩) (hw _ (List.mem_of_getElem? (i := 1) rfl)) (ty := (.object "java/lang/String")) (by decide) rfl rfl (g := (mkF m 27 #[.val (.ref a), .val (.ref oA), .val (.ref oB), .val (.ref oC)] [(.ref oA), (.ref a)])) rfl rfl (hb hby own_d_prog_45_method_1_27)
  have Fw19 := Fz18.same W19
  have Fz20 := (CC12.safe ((X.ext E2).ext E7).lt (CC7.safe (X.ext E2).lt (CC2.safe X.lt Sa)))
  have R19 := R12.trans (CHr.wr W19 Fz20 R12.1)
  have K19 : Keep h0 h19 [a] := K12.wr W19 (Or.inl (List.mem_of_getElem? (i := 0) rfl))
  have N19 := Fr.snoc X19 N16 ga
  have O19 := own_extW O12 W19 ga
  refine own_go (T19.setTop (mkF m 30 #[.val (.ref a), .val (.ref oA), .val (.ref oB), .val (.ref oC)] [])) (fun t_ k_ => st19 _ k_) ?_
  refine own_go (T19.setTop (mkF m 31 #[.val (.ref a), .val (.ref oA), .val (.ref oB), .val (.ref oC)] [(.ref a)])) (fun t_ k_ => XS.aloadN X19.here hx rfl (hb hby own_d_prog_45_method_1_30) rfl rfl k_) ?_
  refine own_go (T19.setTop (mkF m 32 #[.val (.ref a), .val (.ref oA), .val (.ref oB), .val (.ref oC)] [(.ref oB), (.ref a)])) (fun t_ k_ => XS.aloadN X19.here hx rfl (hb hby own_d_prog_45_method_1_31) rfl rfl k_) ?_
  have Fz21 := (Fz17.wr W19)
  have Fz22 := ((((F1.ext E2).ext E7).ext E12).other W19 (Or.inr (slot_ne (a0 := a0) (Or.inr (hw _ (List.mem_of_getElem? (i := 43) rfl))) (Or.inr (hw _ (List.mem_of_getElem? (i := 41) rfl))) (by decide) (t := (.object "java/lang/String")) (t' := (.object "java/lang/String")) (by decide) (by decide))))
  obtain ⟨T23, h23, X23, e23, W23, st23⟩ := putF X19 hx hZ hown (host := "") (Or.inl (hw _ (List.mem_of_getElem? (i := 42) rfl))) Via.refl e19 Fz22 Fz21 (Or.inr ⟨(hw _ (List.mem_of_getElem? (i := 43) rfl)), rfl, hnm⟩) (hw _ (List.mem_of_getElem? (i := 1) rfl)) (ty := (.object "java/lang/String")) (by decide) rfl rfl (g := (mkF m 32 #[.val (.ref a), .val (.ref oA), .val (.ref oB), .val (.ref oC)] [(.ref oB), (.ref a)])) rfl rfl (hb hby own_d_prog_45_method_1_32)
  have Fw23 := Fz22.same W23
  have Fz24 := (Safe.wr W19 Fz20 R12.1 Fz20)
  have R23 := R19.trans (CHr.wr W23 Fz24 R19.1)
  have K23 : Keep h0 h23 [a] := K19.wr W23 (Or.inl (List.mem_of_getElem? (i := 0) rfl))
  have N23 := Fr.snoc X23 N19 ga
  have O23 := own_extW O19 W23 ga
  refine own_go (T23.setTop (mkF m 35 #[.val (.ref a), .val (.ref oA), .val (.ref oB), .val (.ref oC)] [])) (fun t_ k_ => st23 _ k_) ?_
  refine own_go (T23.setTop (mkF m 36 #[.val (.ref a), .val (.ref oA), .val (.ref oB), .val (.ref oC)] [(.ref a)])) (fun t_ k_ => XS.aloadN X23.here hx rfl (hb hby own_d_prog_45_method_1_35) rfl rfl k_) ?_
  refine own_go (T23.setTop (mkF m 37 #[.val (.ref a), .val (.ref oA), .val (.ref oB), .val (.ref oC)] [(.ref oC), (.ref a)])) (fun t_ k_ => XS.aloadN X23.here hx rfl (hb hby own_d_prog_45_method_1_36) rfl rfl k_) ?_
  have Fz25 := (Fz21.wr W23)
  have Fz26 := (((((F2.ext E2).ext E7).ext E12).other W19 (Or.inr (slot_ne (a0 := a0) (Or.inr (hw _ (List.mem_of_getElem? (i := 45) rfl))) (Or.inr (hw _ (List.mem_of_getElem? (i := 41) rfl))) (by decide) (t := (.object "java/lang/String")) (t' := (.object "java/lang/String")) (by decide) (by decide)))).other W23 (Or.inr (slot_ne (a0 := a0) (Or.inr (hw _ (List.mem_of_getElem? (i := 45) rfl))) (Or.inr (hw _ (List.mem_of_getElem? (i := 43) rfl))) (by decide) (t := (.object "java/lang/String")) (t' := (.object "java/lang/String")) (by decide) (by decide))))
  obtain ⟨T27, h27, X27, e27, W27, st27⟩ := putF X23 hx hZ hown (host := "") (Or.inl (hw _ (List.mem_of_getElem? (i := 44) rfl))) Via.refl e23 Fz26 Fz25 (Or.inr ⟨(hw _ (List.mem_of_getElem? (i := 45) rfl)), rfl, hnm⟩) (hw _ (List.mem_of_getElem? (i := 1) rfl)) (ty := (.object "java/lang/String")) (by decide) rfl rfl (g := (mkF m 37 #[.val (.ref a), .val (.ref oA), .val (.ref oB), .val (.ref oC)] [(.ref oC), (.ref a)])) rfl rfl (hb hby own_d_prog_45_method_1_37)
  have Fw27 := Fz26.same W27
  have Fz28 := (Safe.wr W23 Fz24 R19.1 Fz24)
  have R27 := R23.trans (CHr.wr W27 Fz28 R23.1)
  have K27 : Keep h0 h27 [a] := K23.wr W27 (Or.inl (List.mem_of_getElem? (i := 0) rfl))
  have N27 := Fr.snoc X27 N23 ga
  have O27 := own_extW O23 W27 ga
  refine own_go (T27.setTop (mkF m 40 #[.val (.ref a), .val (.ref oA), .val (.ref oB), .val (.ref oC)] [])) (fun t_ k_ => st27 _ k_) ?_
  obtain ⟨fs, hr, hrun, hended, hRW⟩ := X27.leaveW hS (by rw [show T27.heap = h27 from e27]; exact (Nat.le_trans (Nat.le_trans (Nat.le_trans hk (Keep.of_wr W19).1) (Keep.of_wr W23).1) (Keep.of_wr W27).1)) (v := none) (fun _ => rfl)
  refine ⟨_, _, X27.returnOut hx Bd.returns (hb hby own_d_prog_45_method_1_40) hr, hrun, hended, _, _, rfl, ?_, (by rw [hh]; show CHr Z consts_1 s.vm h0 T27.vm T27.heap; rw [show T27.heap = h27 from e27]; exact R27.trans (CHv.at X27 hZ hEW R27.1)), hRW.1, hRW.2.1, hRW.2.2.1, hRW.2.2.2.mono (by decide) (by decide)⟩
  show Q_cv Z a oA tA kA vsA oB tB kB vsB oC tC kC vsC h0 _ T27.heap _
  rw [show T27.heap = h27 from e27]
  exact ⟨rfl, N27, K27⟩
theorem own_pn4 : plainName "java/util/AbstractCollection" = true := by first | (simp [plainName, overriddenIn]; done) | decide +kernel
theorem own_ef_ac (m : MethodId) (a : Addr) : entryFrame m #[(.ref a)] 1 = mkF m 0 #[.val (.ref a)] [] := by first | (simp [entryFrame, mkF, argsToLocals, Value.category]; done) | rfl
theorem own_d_jdk_22_method_1_0 : decode jdk_22_method_1_code 0 = .ok (.aload_n 0, 1) := by decide +kernel
theorem own_d_jdk_22_method_1_1 : decode jdk_22_method_1_code 1 = .ok (.invokespecial 1, 3) := by decide +kernel
theorem own_d_jdk_22_method_1_4 : decode jdk_22_method_1_code 4 = .ok (.return_, 1) := by decide +kernel
def Q_ac (Z : State) (a : Addr) (h0 : Heap) (v_ : Option Value) (h : Heap) (L_ : List Loc) : Prop := v_ = none ∧ Fr Z.heap.size L_ ∧ (h = h0)
set_option maxRecDepth 65536 in
set_option maxHeartbeats 40000000 in
theorem rm_ac (l : Launch) (Z : State) (a0 : Array Value) (hw : ∀ d ∈ tables_1, d.before a0 Z = true) (ws : List Jvm.Cond) (a : Addr) (h0 : Heap) (O : Ext Z.heap h0) :
    MetFree l (⟨"java/util/AbstractCollection", "<init>", "()V"⟩ : MethodName) (head1 (Jvm.Cond.code (⟨"java/util/AbstractCollection", "<init>", "()V"⟩ : MethodName) jdk_22_method_1_code 1 none :: ws) ({ frames := 1, cells := 0, slots := 0, locals := 12 } : Room)) (fun a_ U_ => a_ = #[(.ref a)] ∧ Z.Warmed39 U_.vm ∧ U_.heap = h0) (fun _ _ _ _ _ => True) (fun _ U_ o_ U2_ => ∃ v_ L_, o_ = .returned v_ ∧ Q_ac Z a h0 v_ U2_.heap L_ ∧ FrameEnd U_ o_ U2_ L_ ({ frames := 1, cells := 0, slots := 0, locals := 12 } : Room).cells ({ frames := 1, cells := 0, slots := 0, locals := 12 } : Room).slots) := by
  refine MetFree.of_bodySF (plainFor_of_name own_pn4) hisR ?_
  intro p e s m args below meth c s₁ Bd hml0 hP hK
  obtain ⟨rfl, hZ, hh⟩ := hP
  have hx := Bd.exec
  have hby := Bd.bytes
  have hml : c.maxLocals = 1 := hml0
  have hown : s.vm.findClass "java/util/AbstractCollection" = some m.cls := findClass_of_methodNamed Bd.named
  have hnm := (name_of_methodNamed Bd.named Bd.method).1
  have X0 : Stand p l e ({ frames := 1, cells := 0, slots := 0, locals := 12 } : Room) s m #[(.ref a)] below meth c s₁ [] 0 0 := Stand.of_body Bd
  have e0 : s₁.heap = h0 := by rw [← hh, Bd.state]; rfl
  have N0 := Fr.nil Z.heap.size
  show own_G p e below (fun o_ s₂ => ∃ v_ L_, o_ = .returned v_ ∧ Q_ac Z a h0 v_ s₂.heap L_ ∧ FrameEnd s o_ s₂ L_ ({ frames := 1, cells := 0, slots := 0, locals := 12 } : Room).cells ({ frames := 1, cells := 0, slots := 0, locals := 12 } : Room).slots) (s₁.setTop (entryFrame m #[(.ref a)] 1))
  refine own_go (s₁.setTop (mkF m 0 #[.val (.ref a)] [])) (fun t_ k_ => castTop (own_ef_ac m a) k_) ?_
  refine own_go (s₁.setTop (mkF m 1 #[.val (.ref a)] [(.ref a)])) (fun t_ k_ => XS.aloadN X0.here hx rfl (hb hby own_d_jdk_22_method_1_0) rfl rfl k_) ?_
  obtain ⟨T1, X1, e1, st1⟩ := initO X0 hx hZ hown (hw _ (List.mem_of_getElem? (i := 64) rfl)) (hw _ (List.mem_of_getElem? (i := 22) rfl)) (hw _ (List.mem_of_getElem? (i := 23) rfl)) e0 (g := (mkF m 1 #[.val (.ref a)] [(.ref a)])) rfl (by rw [hml]; rfl) rfl (hb hby own_d_jdk_22_method_1_1) (by decide) (W := 0) (by show 2 * 0 + _ ≤ _; exact Nat.le_of_eq rfl) (by decide)
  refine own_go (T1.setTop (mkF m 4 #[.val (.ref a)] [])) (fun t_ k_ => st1 _ k_) ?_
  obtain ⟨fs, hr, hrun, hended, hW, hsame⟩ := X1.leave (v := none) (fun _ => rfl)
  refine ⟨_, _, X1.returnOut hx Bd.returns (hb hby own_d_jdk_22_method_1_4) hr, hrun, hended, _, _, rfl, ?_, ⟨_, rfl⟩, hW, hsame.mono (by decide) (by decide)⟩
  show Q_ac Z a h0 _ T1.heap _
  exact ⟨rfl, N0, e1⟩
theorem own_pn5 : plainName "java/util/AbstractList" = true := by first | (simp [plainName, overriddenIn]; done) | decide +kernel
theorem own_ef_at (m : MethodId) (a : Addr) : entryFrame m #[(.ref a)] 1 = mkF m 0 #[.val (.ref a)] [] := by first | (simp [entryFrame, mkF, argsToLocals, Value.category]; done) | rfl
theorem own_d_jdk_39_method_1_0 : decode jdk_39_method_1_code 0 = .ok (.aload_n 0, 1) := by decide +kernel
theorem own_d_jdk_39_method_1_1 : decode jdk_39_method_1_code 1 = .ok (.invokespecial 1, 3) := by decide +kernel
theorem own_d_jdk_39_method_1_4 : decode jdk_39_method_1_code 4 = .ok (.aload_n 0, 1) := by decide +kernel
theorem own_d_jdk_39_method_1_5 : decode jdk_39_method_1_code 5 = .ok (.iconst 0, 1) := by decide +kernel
theorem own_d_jdk_39_method_1_6 : decode jdk_39_method_1_code 6 = .ok (.putfield 7, 3) := by decide +kernel
theorem own_d_jdk_39_method_1_9 : decode jdk_39_method_1_code 9 = .ok (.return_, 1) := by decide +kernel
def Q_at (Z : State) (a : Addr) (h0 : Heap) (v_ : Option Value) (h : Heap) (L_ : List Loc) : Prop := v_ = none ∧ Fr Z.heap.size L_ ∧ (Keep h0 h [a] ∧ Exa Z h a "java/util/ArrayList" ∧ Fld Z h a "java/util/AbstractList" "modCount" "I" (.int 0) ∧ Fld Z h a "java/util/ArrayList" "size" "I" (.int 0) ∧ Fld Z h a "java/util/ArrayList" "elementData" "[Ljava/lang/Object;" .null)
set_option maxRecDepth 65536 in
set_option maxHeartbeats 40000000 in
theorem rm_at (l : Launch) (Z : State) (a0 : Array Value) (hw : ∀ d ∈ tables_1, d.before a0 Z = true) (ws : List Jvm.Cond) (a : Addr) (h0 : Heap) (O : Ext Z.heap h0) (X : Exa Z h0 a "java/util/ArrayList") (Fm : Fld Z h0 a "java/util/AbstractList" "modCount" "I" (.int 0)) (Fs : Fld Z h0 a "java/util/ArrayList" "size" "I" (.int 0)) (Fe : Fld Z h0 a "java/util/ArrayList" "elementData" "[Ljava/lang/Object;" .null) (ga : Z.heap.size ≤ a) :
    MetFree l (⟨"java/util/AbstractList", "<init>", "()V"⟩ : MethodName) (head1 (Jvm.Cond.code (⟨"java/util/AbstractList", "<init>", "()V"⟩ : MethodName) jdk_39_method_1_code 1 none :: ws) ({ frames := 2, cells := 0, slots := 0, locals := 24 } : Room)) (fun a_ U_ => a_ = #[(.ref a)] ∧ Z.Warmed39 U_.vm ∧ U_.heap = h0) (fun _ _ _ _ _ => True) (fun _ U_ o_ U2_ => ∃ v_ L_, o_ = .returned v_ ∧ Q_at Z a h0 v_ U2_.heap L_ ∧ FrameEnd U_ o_ U2_ L_ ({ frames := 2, cells := 0, slots := 0, locals := 24 } : Room).cells ({ frames := 2, cells := 0, slots := 0, locals := 24 } : Room).slots) := by
  refine MetFree.of_bodySF (plainFor_of_name own_pn5) hisR ?_
  intro p e s m args below meth c s₁ Bd hml0 hP hK
  obtain ⟨rfl, hZ, hh⟩ := hP
  have hx := Bd.exec
  have hby := Bd.bytes
  have hml : c.maxLocals = 1 := hml0
  have hown : s.vm.findClass "java/util/AbstractList" = some m.cls := findClass_of_methodNamed Bd.named
  have hnm := (name_of_methodNamed Bd.named Bd.method).1
  have X0 : Stand p l e ({ frames := 2, cells := 0, slots := 0, locals := 24 } : Room) s m #[(.ref a)] below meth c s₁ [] 0 0 := Stand.of_body Bd
  have e0 : s₁.heap = h0 := by rw [← hh, Bd.state]; rfl
  have N0 := Fr.nil Z.heap.size
  show own_G p e below (fun o_ s₂ => ∃ v_ L_, o_ = .returned v_ ∧ Q_at Z a h0 v_ s₂.heap L_ ∧ FrameEnd s o_ s₂ L_ ({ frames := 2, cells := 0, slots := 0, locals := 24 } : Room).cells ({ frames := 2, cells := 0, slots := 0, locals := 24 } : Room).slots) (s₁.setTop (entryFrame m #[(.ref a)] 1))
  refine own_go (s₁.setTop (mkF m 0 #[.val (.ref a)] [])) (fun t_ k_ => castTop (own_ef_at m a) k_) ?_
  refine own_go (s₁.setTop (mkF m 1 #[.val (.ref a)] [(.ref a)])) (fun t_ k_ => XS.aloadN X0.here hx rfl (hb hby own_d_jdk_39_method_1_0) rfl rfl k_) ?_
  obtain ⟨_, _, ⟨T1, Lu1, ku1, nu1⟩, -, X1, ⟨Lc1, hQ1, lu1, yu1, zu1⟩, st1⟩ := X0.specialBack hx (y := (⟨"java/util/AbstractCollection", "<init>", "()V"⟩ : MethodName)) rfl hown (mvT hZ (hw _ (List.mem_of_getElem? (i := 58) rfl))) (mvT hZ (hw _ (List.mem_of_getElem? (i := 59) rfl))) (mvT hZ (hw _ (List.mem_of_getElem? (i := 63) rfl))) (by decide) (backOf (W := 0) (rm_ac l Z a0 hw [] (a) h0 O ) hZ (hw _ (List.mem_of_getElem? (i := 63) rfl)) (hw _ (List.mem_of_getElem? (i := 62) rfl)) (by decide) (by decide)) (g := (mkF m 1 #[.val (.ref a)] [(.ref a)])) rfl (by rw [hml]; rfl) (Steps.refl _) (a := a) (argsL := []) (rest := []) (lenOf own_pd2 rfl) rfl (by show 2 * 0 + _ ≤ _; exact Nat.le_of_eq rfl) (hb hby own_d_jdk_39_method_1_1) (fun _ _ => ⟨rfl, e0, (by decide : 0 + 0 ≤ _), (by decide : 0 + 0 ≤ _)⟩)
  dsimp only [Pt.U, Pt.locs, Pt.cells, Pt.slots] at X1 lu1 yu1 zu1 st1 hQ1
  subst lu1 yu1 zu1
  obtain ⟨rfl, N1q, e1⟩ := hQ1
  have N1 := Fr.app N0 N1q
  refine own_go (T1.setTop (mkF m 4 #[.val (.ref a)] [])) (fun t_ k_ => st1.trans k_) ?_
  refine own_go (T1.setTop (mkF m 5 #[.val (.ref a)] [(.ref a)])) (fun t_ k_ => XS.aloadN X1.here hx rfl (hb hby own_d_jdk_39_method_1_4) rfl rfl k_) ?_
  refine own_go (T1.setTop (mkF m 6 #[.val (.ref a)] [(.int (0 : Int32)), (.ref a)])) (fun t_ k_ => XS.iconst X1.here hx rfl (hb hby own_d_jdk_39_method_1_5) k_) ?_
  obtain ⟨T2, h2, X2, e2, W2, st2⟩ := putF X1 hx hZ hown (host := "") (Or.inl (hw _ (List.mem_of_getElem? (i := 65) rfl))) Via.refl e1 Fm X (Or.inl (hw _ (List.mem_of_getElem? (i := 66) rfl))) (hw _ (List.mem_of_getElem? (i := 47) rfl)) (ty := .int) (by decide) rfl rfl (g := (mkF m 6 #[.val (.ref a)] [(.int (0 : Int32)), (.ref a)])) rfl rfl (hb hby own_d_jdk_39_method_1_6)
  have Fw2 := Fm.same W2
  have K2 : Keep h0 h2 [a] := (Keep.refl h0 [a]).wr W2 (Or.inl (List.mem_of_getElem? (i := 0) rfl))
  have N2 := Fr.snoc X2 N1 ga
  have O2 := own_extW O W2 ga
  refine own_go (T2.setTop (mkF m 9 #[.val (.ref a)] [])) (fun t_ k_ => st2 _ k_) ?_
  obtain ⟨fs, hr, hrun, hended, hW, hsame⟩ := X2.leave (v := none) (fun _ => rfl)
  refine ⟨_, _, X2.returnOut hx Bd.returns (hb hby own_d_jdk_39_method_1_9) hr, hrun, hended, _, _, rfl, ?_, ⟨_, rfl⟩, hW, hsame.mono (by decide) (by decide)⟩
  show Q_at Z a h0 _ T2.heap _
  have Fz3 := (X.wr W2)
  have Fz4 := (Fs.other W2 (Or.inr (slot_ne (a0 := a0) (Or.inl (hw _ (List.mem_of_getElem? (i := 117) rfl))) (Or.inl (hw _ (List.mem_of_getElem? (i := 66) rfl))) (by decide) (t := .int) (t' := .int) (by decide) (by decide))))
  have Fz5 := (Fe.other W2 (Or.inr (slot_ne (a0 := a0) (Or.inl (hw _ (List.mem_of_getElem? (i := 69) rfl))) (Or.inl (hw _ (List.mem_of_getElem? (i := 66) rfl))) (by decide) (t := (.array (.object "java/lang/Object"))) (t' := .int) (by decide) (by decide))))
  rw [show T2.heap = h2 from e2]
  exact ⟨rfl, N2, K2, Fz3, Fw2, Fz4, Fz5⟩
theorem own_pn6 : plainName "java/util/ArrayList" = true := by first | (simp [plainName, overriddenIn]; done) | decide +kernel
theorem own_ef_ai0 (m : MethodId) (a : Addr) : entryFrame m #[(.ref a)] 1 = mkF m 0 #[.val (.ref a)] [] := by first | (simp [entryFrame, mkF, argsToLocals, Value.category]; done) | rfl
theorem own_d_jdk_38_method_2_0 : decode jdk_38_method_2_code 0 = .ok (.aload_n 0, 1) := by decide +kernel
theorem own_d_jdk_38_method_2_1 : decode jdk_38_method_2_code 1 = .ok (.invokespecial 1, 3) := by decide +kernel
theorem own_d_jdk_38_method_2_4 : decode jdk_38_method_2_code 4 = .ok (.aload_n 0, 1) := by decide +kernel
theorem own_d_jdk_38_method_2_5 : decode jdk_38_method_2_code 5 = .ok (.getstatic 39, 3) := by decide +kernel
theorem own_d_jdk_38_method_2_8 : decode jdk_38_method_2_code 8 = .ok (.putfield 9, 3) := by decide +kernel
theorem own_d_jdk_38_method_2_11 : decode jdk_38_method_2_code 11 = .ok (.return_, 1) := by decide +kernel
def Q_ai0 (Z : State) (a : Addr) (cs0 : Int32) (a_EM : Addr) (a_DF : Addr) (m_A : Addr) (m_L : Addr) (m_R : Addr) (h0 : Heap) (v_ : Option Value) (h : Heap) (L_ : List Loc) : Prop := v_ = none ∧ Fr Z.heap.size L_ ∧ (Keep h0 h [a] ∧ Exa Z h a "java/util/ArrayList" ∧ Fld Z h a "java/util/AbstractList" "modCount" "I" (.int 0) ∧ Fld Z h a "java/util/ArrayList" "size" "I" (.int 0) ∧ Fld Z h a "java/util/ArrayList" "elementData" "[Ljava/lang/Object;" (.ref a_DF))
set_option maxRecDepth 65536 in
set_option maxHeartbeats 40000000 in
theorem rm_ai0 (l : Launch) (Z : State) (a0 : Array Value) (hw : ∀ d ∈ tables_1, d.before a0 Z = true) (ws : List Jvm.Cond) (a : Addr) (cs0 : Int32) (a_EM : Addr) (a_DF : Addr) (m_A : Addr) (m_L : Addr) (m_R : Addr) (h0 : Heap) (O : Ext Z.heap h0) (w : own_W Z cs0 a_EM a_DF m_A m_L m_R) (X : Exa Z h0 a "java/util/ArrayList") (Fm : Fld Z h0 a "java/util/AbstractList" "modCount" "I" (.int 0)) (Fs : Fld Z h0 a "java/util/ArrayList" "size" "I" (.int 0)) (Fe : Fld Z h0 a "java/util/ArrayList" "elementData" "[Ljava/lang/Object;" .null) (ga : Z.heap.size ≤ a) :
    MetFree l (⟨"java/util/ArrayList", "<init>", "()V"⟩ : MethodName) (head1 (Jvm.Cond.code (⟨"java/util/ArrayList", "<init>", "()V"⟩ : MethodName) jdk_38_method_2_code 1 none :: ws) ({ frames := 3, cells := 0, slots := 0, locals := 36 } : Room)) (fun a_ U_ => a_ = #[(.ref a)] ∧ Z.Warmed39 U_.vm ∧ U_.heap = h0) (fun _ _ _ _ _ => True) (fun _ U_ o_ U2_ => ∃ v_ L_, o_ = .returned v_ ∧ Q_ai0 Z a cs0 a_EM a_DF m_A m_L m_R h0 v_ U2_.heap L_ ∧ FrameEnd U_ o_ U2_ L_ ({ frames := 3, cells := 0, slots := 0, locals := 36 } : Room).cells ({ frames := 3, cells := 0, slots := 0, locals := 36 } : Room).slots) := by
  refine MetFree.of_bodySF (plainFor_of_name own_pn6) hisR ?_
  intro p e s m args below meth c s₁ Bd hml0 hP hK
  obtain ⟨rfl, hZ, hh⟩ := hP
  have hx := Bd.exec
  have hby := Bd.bytes
  have hml : c.maxLocals = 1 := hml0
  have hown : s.vm.findClass "java/util/ArrayList" = some m.cls := findClass_of_methodNamed Bd.named
  have hnm := (name_of_methodNamed Bd.named Bd.method).1
  have X0 : Stand p l e ({ frames := 3, cells := 0, slots := 0, locals := 36 } : Room) s m #[(.ref a)] below meth c s₁ [] 0 0 := Stand.of_body Bd
  have e0 : s₁.heap = h0 := by rw [← hh, Bd.state]; rfl
  have N0 := Fr.nil Z.heap.size
  show own_G p e below (fun o_ s₂ => ∃ v_ L_, o_ = .returned v_ ∧ Q_ai0 Z a cs0 a_EM a_DF m_A m_L m_R h0 v_ s₂.heap L_ ∧ FrameEnd s o_ s₂ L_ ({ frames := 3, cells := 0, slots := 0, locals := 36 } : Room).cells ({ frames := 3, cells := 0, slots := 0, locals := 36 } : Room).slots) (s₁.setTop (entryFrame m #[(.ref a)] 1))
  refine own_go (s₁.setTop (mkF m 0 #[.val (.ref a)] [])) (fun t_ k_ => castTop (own_ef_ai0 m a) k_) ?_
  have w' := w
  obtain ⟨S_CS, n_CS, S_EM, S_DF, M_A, M_L, M_R⟩ := w'
  refine own_go (s₁.setTop (mkF m 1 #[.val (.ref a)] [(.ref a)])) (fun t_ k_ => XS.aloadN X0.here hx rfl (hb hby own_d_jdk_38_method_2_0) rfl rfl k_) ?_
  obtain ⟨_, _, ⟨T1, Lu1, ku1, nu1⟩, -, X1, ⟨Lc1, hQ1, lu1, yu1, zu1⟩, st1⟩ := X0.specialBack hx (y := (⟨"java/util/AbstractList", "<init>", "()V"⟩ : MethodName)) rfl hown (mvT hZ (hw _ (List.mem_of_getElem? (i := 52) rfl))) (mvT hZ (hw _ (List.mem_of_getElem? (i := 53) rfl))) (mvT hZ (hw _ (List.mem_of_getElem? (i := 57) rfl))) (by decide) (backOf (W := 0) (rm_at l Z a0 hw [] (a) h0 O X Fm Fs Fe ga) hZ (hw _ (List.mem_of_getElem? (i := 57) rfl)) (hw _ (List.mem_of_getElem? (i := 56) rfl)) (by decide) (by decide)) (g := (mkF m 1 #[.val (.ref a)] [(.ref a)])) rfl (by rw [hml]; rfl) (Steps.refl _) (a := a) (argsL := []) (rest := []) (lenOf own_pd2 rfl) rfl (by show 2 * 0 + _ ≤ _; exact Nat.le_of_eq rfl) (hb hby own_d_jdk_38_method_2_1) (fun _ _ => ⟨rfl, e0, (by decide : 0 + 0 ≤ _), (by decide : 0 + 0 ≤ _)⟩)
  dsimp only [Pt.U, Pt.locs, Pt.cells, Pt.slots] at X1 lu1 yu1 zu1 st1 hQ1
  subst lu1 yu1 zu1
  obtain ⟨rfl, N1q, K1q, X1q, M1q, S1q, D1q⟩ := hQ1
  have N1 := Fr.app N0 N1q
  have O1 := own_extK O K1q (allS ga all0)
  have KK1 : Keep h0 T1.heap [a] := (Keep.refl h0 [a]).trans K1q (allS (Or.inl (List.mem_of_getElem? (i := 0) rfl)) all0)
  refine own_go (T1.setTop (mkF m 4 #[.val (.ref a)] [])) (fun t_ k_ => st1.trans k_) ?_
  refine own_go (T1.setTop (mkF m 5 #[.val (.ref a)] [(.ref a)])) (fun t_ k_ => XS.aloadN X1.here hx rfl (hb hby own_d_jdk_38_method_2_4) rfl rfl k_) ?_
  obtain ⟨T2, X2, e2, st2⟩ := getS2 X1 hx hZ hown (host := "") (Or.inl (hw _ (List.mem_of_getElem? (i := 67) rfl))) Via.refl rfl (S_DF.ext O1) (g := (mkF m 5 #[.val (.ref a)] [(.ref a)])) rfl (hb hby own_d_jdk_38_method_2_5)
  refine own_go (T2.setTop (mkF m 8 #[.val (.ref a)] [(.ref a_DF), (.ref a)])) (fun t_ k_ => st2 _ k_) ?_
  obtain ⟨T3, h3, X3, e3, W3, st3⟩ := putF X2 hx hZ hown (host := "") (Or.inl (hw _ (List.mem_of_getElem? (i := 68) rfl))) Via.refl e2 D1q X1q (Or.inl (hw _ (List.mem_of_getElem? (i := 69) rfl))) (hw _ (List.mem_of_getElem? (i := 47) rfl)) (ty := (.array (.object "java/lang/Object"))) (by decide) rfl rfl (g := (mkF m 8 #[.val (.ref a)] [(.ref a_DF), (.ref a)])) rfl rfl (hb hby own_d_jdk_38_method_2_8)
  have Fw3 := D1q.same W3
  have K3 : Keep h0 h3 [a] := KK1.wr W3 (Or.inl (List.mem_of_getElem? (i := 0) rfl))
  have N3 := Fr.snoc X3 N1 ga
  have O3 := own_extW O1 W3 ga
  refine own_go (T3.setTop (mkF m 11 #[.val (.ref a)] [])) (fun t_ k_ => st3 _ k_) ?_
  obtain ⟨fs, hr, hrun, hended, hW, hsame⟩ := X3.leave (v := none) (fun _ => rfl)
  refine ⟨_, _, X3.returnOut hx Bd.returns (hb hby own_d_jdk_38_method_2_11) hr, hrun, hended, _, _, rfl, ?_, ⟨_, rfl⟩, hW, hsame.mono (by decide) (by decide)⟩
  show Q_ai0 Z a cs0 a_EM a_DF m_A m_L m_R h0 _ T3.heap _
  have Fz4 := (X1q.wr W3)
  have Fz5 := (M1q.other W3 (Or.inr (slot_ne (a0 := a0) (Or.inl (hw _ (List.mem_of_getElem? (i := 66) rfl))) (Or.inl (hw _ (List.mem_of_getElem? (i := 69) rfl))) (by decide) (t := .int) (t' := (.array (.object "java/lang/Object"))) (by decide) (by decide))))
  have Fz6 := (S1q.other W3 (Or.inr (slot_ne (a0 := a0) (Or.inl (hw _ (List.mem_of_getElem? (i := 117) rfl))) (Or.inl (hw _ (List.mem_of_getElem? (i := 69) rfl))) (by decide) (t := .int) (t' := (.array (.object "java/lang/Object"))) (by decide) (by decide))))
  rw [show T3.heap = h3 from e3]
  exact ⟨rfl, N3, K3, Fz4, Fz5, Fz6, Fw3⟩
theorem own_ef_ai1 (m : MethodId) (a : Addr) : entryFrame m #[(.ref a), (.int (0 : Int32))] 2 = mkF m 0 #[.val (.ref a), .val (.int (0 : Int32))] [] := by first | (simp [entryFrame, mkF, argsToLocals, Value.category]; done) | rfl
theorem own_d_jdk_38_method_1_0 : decode jdk_38_method_1_code 0 = .ok (.aload_n 0, 1) := by decide +kernel
theorem own_d_jdk_38_method_1_1 : decode jdk_38_method_1_code 1 = .ok (.invokespecial 1, 3) := by decide +kernel
theorem own_d_jdk_38_method_1_4 : decode jdk_38_method_1_code 4 = .ok (.iload_n 1, 1) := by decide +kernel
theorem own_d_jdk_38_method_1_5 : decode jdk_38_method_1_code 5 = .ok (.ifCond .le 14, 3) := by decide +kernel
theorem own_d_jdk_38_method_1_19 : decode jdk_38_method_1_code 19 = .ok (.iload_n 1, 1) := by decide +kernel
theorem own_d_jdk_38_method_1_20 : decode jdk_38_method_1_code 20 = .ok (.ifCond .ne 13, 3) := by decide +kernel
theorem own_d_jdk_38_method_1_23 : decode jdk_38_method_1_code 23 = .ok (.aload_n 0, 1) := by decide +kernel
theorem own_d_jdk_38_method_1_24 : decode jdk_38_method_1_code 24 = .ok (.getstatic 15, 3) := by decide +kernel
theorem own_d_jdk_38_method_1_27 : decode jdk_38_method_1_code 27 = .ok (.putfield 9, 3) := by decide +kernel
theorem own_d_jdk_38_method_1_30 : decode jdk_38_method_1_code 30 = .ok (.goto 30, 3) := by decide +kernel
theorem own_d_jdk_38_method_1_60 : decode jdk_38_method_1_code 60 = .ok (.return_, 1) := by decide +kernel
def Q_ai1 (Z : State) (a : Addr) (cs0 : Int32) (a_EM : Addr) (a_DF : Addr) (m_A : Addr) (m_L : Addr) (m_R : Addr) (h0 : Heap) (v_ : Option Value) (h : Heap) (L_ : List Loc) : Prop := v_ = none ∧ Fr Z.heap.size L_ ∧ (Keep h0 h [a] ∧ Exa Z h a "java/util/ArrayList" ∧ Fld Z h a "java/util/AbstractList" "modCount" "I" (.int 0) ∧ Fld Z h a "java/util/ArrayList" "size" "I" (.int 0) ∧ Fld Z h a "java/util/ArrayList" "elementData" "[Ljava/lang/Object;" (.ref a_EM))
set_option maxRecDepth 65536 in
set_option maxHeartbeats 40000000 in
theorem rm_ai1 (l : Launch) (Z : State) (a0 : Array Value) (hw : ∀ d ∈ tables_1, d.before a0 Z = true) (ws : List Jvm.Cond) (a : Addr) (cs0 : Int32) (a_EM : Addr) (a_DF : Addr) (m_A : Addr) (m_L : Addr) (m_R : Addr) (h0 : Heap) (O : Ext Z.heap h0) (w : own_W Z cs0 a_EM a_DF m_A m_L m_R) (X : Exa Z h0 a "java/util/ArrayList") (Fm : Fld Z h0 a "java/util/AbstractList" "modCount" "I" (.int 0)) (Fs : Fld Z h0 a "java/util/ArrayList" "size" "I" (.int 0)) (Fe : Fld Z h0 a "java/util/ArrayList" "elementData" "[Ljava/lang/Object;" .null) (ga : Z.heap.size ≤ a) :
    MetFree l (⟨"java/util/ArrayList", "<init>", "(I)V"⟩ : MethodName) (head1 (Jvm.Cond.code (⟨"java/util/ArrayList", "<init>", "(I)V"⟩ : MethodName) jdk_38_method_1_code 2 none :: ws) ({ frames := 3, cells := 0, slots := 0, locals := 36 } : Room)) (fun a_ U_ => a_ = #[(.ref a), (.int (0 : Int32))] ∧ Z.Warmed39 U_.vm ∧ U_.heap = h0) (fun _ _ _ _ _ => True) (fun _ U_ o_ U2_ => ∃ v_ L_, o_ = .returned v_ ∧ Q_ai1 Z a cs0 a_EM a_DF m_A m_L m_R h0 v_ U2_.heap L_ ∧ FrameEnd U_ o_ U2_ L_ ({ frames := 3, cells := 0, slots := 0, locals := 36 } : Room).cells ({ frames := 3, cells := 0, slots := 0, locals := 36 } : Room).slots) := by
  refine MetFree.of_bodySF (plainFor_of_name own_pn6) hisR ?_
  intro p e s m args below meth c s₁ Bd hml0 hP hK
  obtain ⟨rfl, hZ, hh⟩ := hP
  have hx := Bd.exec
  have hby := Bd.bytes
  have hml : c.maxLocals = 2 := hml0
  have hown : s.vm.findClass "java/util/ArrayList" = some m.cls := findClass_of_methodNamed Bd.named
  have hnm := (name_of_methodNamed Bd.named Bd.method).1
  have X0 : Stand p l e ({ frames := 3, cells := 0, slots := 0, locals := 36 } : Room) s m #[(.ref a), (.int (0 : Int32))] below meth c s₁ [] 0 0 := Stand.of_body Bd
  have e0 : s₁.heap = h0 := by rw [← hh, Bd.state]; rfl
  have N0 := Fr.nil Z.heap.size
  show own_G p e below (fun o_ s₂ => ∃ v_ L_, o_ = .returned v_ ∧ Q_ai1 Z a cs0 a_EM a_DF m_A m_L m_R h0 v_ s₂.heap L_ ∧ FrameEnd s o_ s₂ L_ ({ frames := 3, cells := 0, slots := 0, locals := 36 } : Room).cells ({ frames := 3, cells := 0, slots := 0, locals := 36 } : Room).slots) (s₁.setTop (entryFrame m #[(.ref a), (.int (0 : Int32))] 2))
  refine own_go (s₁.setTop (mkF m 0 #[.val (.ref a), .val (.int (0 : Int32))] [])) (fun t_ k_ => castTop (own_ef_ai1 m a) k_) ?_
  have w' := w
  obtain ⟨S_CS, n_CS, S_EM, S_DF, M_A, M_L, M_R⟩ := w'
  refine own_go (s₁.setTop (mkF m 1 #[.val (.ref a), .val (.int (0 : Int32))] [(.ref a)])) (fun t_ k_ => XS.aloadN X0.here hx rfl (hb hby own_d_jdk_38_method_1_0) rfl rfl k_) ?_
  obtain ⟨_, _, ⟨T1, Lu1, ku1, nu1⟩, -, X1, ⟨Lc1, hQ1, lu1, yu1, zu1⟩, st1⟩ := X0.specialBack hx (y := (⟨"java/util/AbstractList", "<init>", "()V"⟩ : MethodName)) rfl hown (mvT hZ (hw _ (List.mem_of_getElem? (i := 52) rfl))) (mvT hZ (hw _ (List.mem_of_getElem? (i := 53) rfl))) (mvT hZ (hw _ (List.mem_of_getElem? (i := 57) rfl))) (by decide) (backOf (W := 0) (rm_at l Z a0 hw [] (a) h0 O X Fm Fs Fe ga) hZ (hw _ (List.mem_of_getElem? (i := 57) rfl)) (hw _ (List.mem_of_getElem? (i := 56) rfl)) (by decide) (by decide)) (g := (mkF m 1 #[.val (.ref a), .val (.int (0 : Int32))] [(.ref a)])) rfl (by rw [hml]; rfl) (Steps.refl _) (a := a) (argsL := []) (rest := []) (lenOf own_pd2 rfl) rfl (by show 2 * 0 + _ ≤ _; exact Nat.le_of_eq rfl) (hb hby own_d_jdk_38_method_1_1) (fun _ _ => ⟨rfl, e0, (by decide : 0 + 0 ≤ _), (by decide : 0 + 0 ≤ _)⟩)
  dsimp only [Pt.U, Pt.locs, Pt.cells, Pt.slots] at X1 lu1 yu1 zu1 st1 hQ1
  subst lu1 yu1 zu1
  obtain ⟨rfl, N1q, K1q, X1q, M1q, S1q, D1q⟩ := hQ1
  have N1 := Fr.app N0 N1q
  have O1 := own_extK O K1q (allS ga all0)
  have KK1 : Keep h0 T1.heap [a] := (Keep.refl h0 [a]).trans K1q (allS (Or.inl (List.mem_of_getElem? (i := 0) rfl)) all0)
  refine own_go (T1.setTop (mkF m 4 #[.val (.ref a), .val (.int (0 : Int32))] [])) (fun t_ k_ => st1.trans k_) ?_
  refine own_go (T1.setTop (mkF m 5 #[.val (.ref a), .val (.int (0 : Int32))] [(.int (0 : Int32))])) (fun t_ k_ => XS.iloadN X1.here hx rfl (hb hby own_d_jdk_38_method_1_4) rfl k_) ?_
  refine own_go (T1.setTop (mkF m 19 #[.val (.ref a), .val (.int (0 : Int32))] [])) (fun t_ k_ => XS.ifYes X1.here hx rfl (pc0 := 5) (pc' := 19) rfl (hb hby own_d_jdk_38_method_1_5) rfl ((if0 _ _).trans (flt (by decide : ¬ ((0 : Int32) < (0 : Int32)))).2.2.2) (by decide) (by decide) k_) ?_
  refine own_go (T1.setTop (mkF m 20 #[.val (.ref a), .val (.int (0 : Int32))] [(.int (0 : Int32))])) (fun t_ k_ => XS.iloadN X1.here hx rfl (hb hby own_d_jdk_38_method_1_19) rfl k_) ?_
  refine own_go (T1.setTop (mkF m 23 #[.val (.ref a), .val (.int (0 : Int32))] [])) (fun t_ k_ => XS.ifNo X1.here hx rfl (hb hby own_d_jdk_38_method_1_20) rfl ((if0 _ _).trans (teq (by decide : (0 : Int32) = (0 : Int32))).2) k_) ?_
  refine own_go (T1.setTop (mkF m 24 #[.val (.ref a), .val (.int (0 : Int32))] [(.ref a)])) (fun t_ k_ => XS.aloadN X1.here hx rfl (hb hby own_d_jdk_38_method_1_23) rfl rfl k_) ?_
  obtain ⟨T2, X2, e2, st2⟩ := getS2 X1 hx hZ hown (host := "") (Or.inl (hw _ (List.mem_of_getElem? (i := 121) rfl))) Via.refl rfl (S_EM.ext O1) (g := (mkF m 24 #[.val (.ref a), .val (.int (0 : Int32))] [(.ref a)])) rfl (hb hby own_d_jdk_38_method_1_24)
  refine own_go (T2.setTop (mkF m 27 #[.val (.ref a), .val (.int (0 : Int32))] [(.ref a_EM), (.ref a)])) (fun t_ k_ => st2 _ k_) ?_
  obtain ⟨T3, h3, X3, e3, W3, st3⟩ := putF X2 hx hZ hown (host := "") (Or.inl (hw _ (List.mem_of_getElem? (i := 68) rfl))) Via.refl e2 D1q X1q (Or.inl (hw _ (List.mem_of_getElem? (i := 69) rfl))) (hw _ (List.mem_of_getElem? (i := 47) rfl)) (ty := (.array (.object "java/lang/Object"))) (by decide) rfl rfl (g := (mkF m 27 #[.val (.ref a), .val (.int (0 : Int32))] [(.ref a_EM), (.ref a)])) rfl rfl (hb hby own_d_jdk_38_method_1_27)
  have Fw3 := D1q.same W3
  have K3 : Keep h0 h3 [a] := KK1.wr W3 (Or.inl (List.mem_of_getElem? (i := 0) rfl))
  have N3 := Fr.snoc X3 N1 ga
  have O3 := own_extW O1 W3 ga
  refine own_go (T3.setTop (mkF m 30 #[.val (.ref a), .val (.int (0 : Int32))] [])) (fun t_ k_ => st3 _ k_) ?_
  refine own_go (T3.setTop (mkF m 60 #[.val (.ref a), .val (.int (0 : Int32))] [])) (fun t_ k_ => XS.goto X3.here hx rfl (pc0 := 30) (pc' := 60) rfl (hb hby own_d_jdk_38_method_1_30) (by decide) (by decide) k_) ?_
  obtain ⟨fs, hr, hrun, hended, hW, hsame⟩ := X3.leave (v := none) (fun _ => rfl)
  refine ⟨_, _, X3.returnOut hx Bd.returns (hb hby own_d_jdk_38_method_1_60) hr, hrun, hended, _, _, rfl, ?_, ⟨_, rfl⟩, hW, hsame.mono (by decide) (by decide)⟩
  show Q_ai1 Z a cs0 a_EM a_DF m_A m_L m_R h0 _ T3.heap _
  have Fz4 := (X1q.wr W3)
  have Fz5 := (M1q.other W3 (Or.inr (slot_ne (a0 := a0) (Or.inl (hw _ (List.mem_of_getElem? (i := 66) rfl))) (Or.inl (hw _ (List.mem_of_getElem? (i := 69) rfl))) (by decide) (t := .int) (t' := (.array (.object "java/lang/Object"))) (by decide) (by decide))))
  have Fz6 := (S1q.other W3 (Or.inr (slot_ne (a0 := a0) (Or.inl (hw _ (List.mem_of_getElem? (i := 117) rfl))) (Or.inl (hw _ (List.mem_of_getElem? (i := 69) rfl))) (by decide) (t := .int) (t' := (.array (.object "java/lang/Object"))) (by decide) (by decide))))
  rw [show T3.heap = h3 from e3]
  exact ⟨rfl, N3, K3, Fz4, Fz5, Fz6, Fw3⟩
theorem own_ef_sz (m : MethodId) (a : Addr) : entryFrame m #[(.ref a)] 1 = mkF m 0 #[.val (.ref a)] [] := by first | (simp [entryFrame, mkF, argsToLocals, Value.category]; done) | rfl
theorem own_d_jdk_38_method_8_0 : decode jdk_38_method_8_code 0 = .ok (.aload_n 0, 1) := by decide +kernel
theorem own_d_jdk_38_method_8_1 : decode jdk_38_method_8_code 1 = .ok (.getfield 48, 3) := by decide +kernel
theorem own_d_jdk_38_method_8_4 : decode jdk_38_method_8_code 4 = .ok (.ireturn, 1) := by decide +kernel
def Q_sz (Z : State) (a : Addr) (h0 : Heap) (v_ : Option Value) (h : Heap) (L_ : List Loc) : Prop := v_ = some (.int 0) ∧ Fr Z.heap.size L_ ∧ (h = h0)
set_option maxRecDepth 65536 in
set_option maxHeartbeats 40000000 in
theorem rm_sz (l : Launch) (Z : State) (a0 : Array Value) (hw : ∀ d ∈ tables_1, d.before a0 Z = true) (ws : List Jvm.Cond) (a : Addr) (h0 : Heap) (O : Ext Z.heap h0) (Fs : Fld Z h0 a "java/util/ArrayList" "size" "I" (.int 0)) :
    MetFree l (⟨"java/util/ArrayList", "size", "()I"⟩ : MethodName) (head1 (Jvm.Cond.code (⟨"java/util/ArrayList", "size", "()I"⟩ : MethodName) jdk_38_method_8_code 1 (some .int) :: ws) ({ frames := 0, cells := 0, slots := 0, locals := 0 } : Room)) (fun a_ U_ => a_ = #[(.ref a)] ∧ Z.Warmed39 U_.vm ∧ U_.heap = h0) (fun _ _ _ _ _ => True) (fun _ U_ o_ U2_ => ∃ v_ L_, o_ = .returned v_ ∧ Q_sz Z a h0 v_ U2_.heap L_ ∧ FrameEnd U_ o_ U2_ L_ ({ frames := 0, cells := 0, slots := 0, locals := 0 } : Room).cells ({ frames := 0, cells := 0, slots := 0, locals := 0 } : Room).slots) := by
  refine MetFree.of_bodySF (plainFor_of_name own_pn6) hisR ?_
  intro p e s m args below meth c s₁ Bd hml0 hP hK
  obtain ⟨rfl, hZ, hh⟩ := hP
  have hx := Bd.exec
  have hby := Bd.bytes
  have hml : c.maxLocals = 1 := hml0
  have hown : s.vm.findClass "java/util/ArrayList" = some m.cls := findClass_of_methodNamed Bd.named
  have hnm := (name_of_methodNamed Bd.named Bd.method).1
  have X0 : Stand p l e ({ frames := 0, cells := 0, slots := 0, locals := 0 } : Room) s m #[(.ref a)] below meth c s₁ [] 0 0 := Stand.of_body Bd
  have e0 : s₁.heap = h0 := by rw [← hh, Bd.state]; rfl
  have N0 := Fr.nil Z.heap.size
  show own_G p e below (fun o_ s₂ => ∃ v_ L_, o_ = .returned v_ ∧ Q_sz Z a h0 v_ s₂.heap L_ ∧ FrameEnd s o_ s₂ L_ ({ frames := 0, cells := 0, slots := 0, locals := 0 } : Room).cells ({ frames := 0, cells := 0, slots := 0, locals := 0 } : Room).slots) (s₁.setTop (entryFrame m #[(.ref a)] 1))
  refine own_go (s₁.setTop (mkF m 0 #[.val (.ref a)] [])) (fun t_ k_ => castTop (own_ef_sz m a) k_) ?_
  refine own_go (s₁.setTop (mkF m 1 #[.val (.ref a)] [(.ref a)])) (fun t_ k_ => XS.aloadN X0.here hx rfl (hb hby own_d_jdk_38_method_8_0) rfl rfl k_) ?_
  obtain ⟨T1, X1, e1, st1⟩ := getF X0 hx hZ hown (host := "") (Or.inl (hw _ (List.mem_of_getElem? (i := 116) rfl))) Via.refl e0 Fs (g := (mkF m 1 #[.val (.ref a)] [(.ref a)])) rfl rfl (hb hby own_d_jdk_38_method_8_1)
  refine own_go (T1.setTop (mkF m 4 #[.val (.ref a)] [(.int (0 : Int32))])) (fun t_ k_ => st1 _ k_) ?_
  obtain ⟨fs, hr, hrun, hended, hW, hsame⟩ := X1.leave (v := some (.int (0 : Int32))) (fun h => by rw [Bd.returns] at h; cases h)
  refine ⟨_, _, retI X1 hx Bd.returns (hb hby own_d_jdk_38_method_8_4) hr, hrun, hended, _, _, rfl, ?_, ⟨_, rfl⟩, hW, hsame.mono (by decide) (by decide)⟩
  show Q_sz Z a h0 _ T1.heap _
  exact ⟨rfl, N0, e1⟩
theorem own_pn7 : plainName "java/util/ArrayList$Itr" = true := by first | (simp [plainName, overriddenIn]; done) | decide +kernel
theorem own_ef_ii (m : MethodId) (i : Addr) (a : Addr) : entryFrame m #[(.ref i), (.ref a)] 2 = mkF m 0 #[.val (.ref i), .val (.ref a)] [] := by first | (simp [entryFrame, mkF, argsToLocals, Value.category]; done) | rfl
theorem own_d_jdk_49_method_1_0 : decode jdk_49_method_1_code 0 = .ok (.aload_n 0, 1) := by decide +kernel
theorem own_d_jdk_49_method_1_1 : decode jdk_49_method_1_code 1 = .ok (.aload_n 1, 1) := by decide +kernel
theorem own_d_jdk_49_method_1_2 : decode jdk_49_method_1_code 2 = .ok (.putfield 1, 3) := by decide +kernel
theorem own_d_jdk_49_method_1_5 : decode jdk_49_method_1_code 5 = .ok (.aload_n 0, 1) := by decide +kernel
theorem own_d_jdk_49_method_1_6 : decode jdk_49_method_1_code 6 = .ok (.invokespecial 7, 3) := by decide +kernel
theorem own_d_jdk_49_method_1_9 : decode jdk_49_method_1_code 9 = .ok (.aload_n 0, 1) := by decide +kernel
theorem own_d_jdk_49_method_1_10 : decode jdk_49_method_1_code 10 = .ok (.iconst (-1), 1) := by decide +kernel
theorem own_d_jdk_49_method_1_11 : decode jdk_49_method_1_code 11 = .ok (.putfield 13, 3) := by decide +kernel
theorem own_d_jdk_49_method_1_14 : decode jdk_49_method_1_code 14 = .ok (.aload_n 0, 1) := by decide +kernel
theorem own_d_jdk_49_method_1_15 : decode jdk_49_method_1_code 15 = .ok (.aload_n 0, 1) := by decide +kernel
theorem own_d_jdk_49_method_1_16 : decode jdk_49_method_1_code 16 = .ok (.getfield 1, 3) := by decide +kernel
theorem own_d_jdk_49_method_1_19 : decode jdk_49_method_1_code 19 = .ok (.getfield 17, 3) := by decide +kernel
theorem own_d_jdk_49_method_1_22 : decode jdk_49_method_1_code 22 = .ok (.putfield 22, 3) := by decide +kernel
theorem own_d_jdk_49_method_1_25 : decode jdk_49_method_1_code 25 = .ok (.return_, 1) := by decide +kernel
def Q_ii (Z : State) (i : Addr) (a : Addr) (h0 : Heap) (v_ : Option Value) (h : Heap) (L_ : List Loc) : Prop := v_ = none ∧ Fr Z.heap.size L_ ∧ (Keep h0 h [i] ∧ Exa Z h i "java/util/ArrayList$Itr" ∧ Fld Z h i "java/util/ArrayList$Itr" "this$0" "Ljava/util/ArrayList;" (.ref a) ∧ Fld Z h i "java/util/ArrayList$Itr" "cursor" "I" (.int 0))
set_option maxRecDepth 65536 in
set_option maxHeartbeats 40000000 in
theorem rm_ii (l : Launch) (Z : State) (a0 : Array Value) (hw : ∀ d ∈ tables_1, d.before a0 Z = true) (ws : List Jvm.Cond) (i : Addr) (a : Addr) (h0 : Heap) (O : Ext Z.heap h0) (Xi : Exa Z h0 i "java/util/ArrayList$Itr") (Ft : Fld Z h0 i "java/util/ArrayList$Itr" "this$0" "Ljava/util/ArrayList;" .null) (Fc : Fld Z h0 i "java/util/ArrayList$Itr" "cursor" "I" (.int 0)) (Fr_ : Fld Z h0 i "java/util/ArrayList$Itr" "lastRet" "I" (.int 0)) (Fx : Fld Z h0 i "java/util/ArrayList$Itr" "expectedModCount" "I" (.int 0)) (gi : Z.heap.size ≤ i) (X : Exa Z h0 a "java/util/ArrayList") (Fm : Fld Z h0 a "java/util/AbstractList" "modCount" "I" (.int 0)) :
    MetFree l (⟨"java/util/ArrayList$Itr", "<init>", "(Ljava/util/ArrayList;)V"⟩ : MethodName) (head1 (Jvm.Cond.code (⟨"java/util/ArrayList$Itr", "<init>", "(Ljava/util/ArrayList;)V"⟩ : MethodName) jdk_49_method_1_code 2 none :: ws) ({ frames := 1, cells := 0, slots := 0, locals := 12 } : Room)) (fun a_ U_ => a_ = #[(.ref i), (.ref a)] ∧ Z.Warmed39 U_.vm ∧ U_.heap = h0) (fun _ _ _ _ _ => True) (fun _ U_ o_ U2_ => ∃ v_ L_, o_ = .returned v_ ∧ Q_ii Z i a h0 v_ U2_.heap L_ ∧ FrameEnd U_ o_ U2_ L_ ({ frames := 1, cells := 0, slots := 0, locals := 12 } : Room).cells ({ frames := 1, cells := 0, slots := 0, locals := 12 } : Room).slots) := by
  refine MetFree.of_bodySF (plainFor_of_name own_pn7) hisR ?_
  intro p e s m args below meth c s₁ Bd hml0 hP hK
  obtain ⟨rfl, hZ, hh⟩ := hP
  have hx := Bd.exec
  have hby := Bd.bytes
  have hml : c.maxLocals = 2 := hml0
  have hown : s.vm.findClass "java/util/ArrayList$Itr" = some m.cls := findClass_of_methodNamed Bd.named
  have hnm := (name_of_methodNamed Bd.named Bd.method).1
  have X0 : Stand p l e ({ frames := 1, cells := 0, slots := 0, locals := 12 } : Room) s m #[(.ref i), (.ref a)] below meth c s₁ [] 0 0 := Stand.of_body Bd
  have e0 : s₁.heap = h0 := by rw [← hh, Bd.state]; rfl
  have N0 := Fr.nil Z.heap.size
  show own_G p e below (fun o_ s₂ => ∃ v_ L_, o_ = .returned v_ ∧ Q_ii Z i a h0 v_ s₂.heap L_ ∧ FrameEnd s o_ s₂ L_ ({ frames := 1, cells := 0, slots := 0, locals := 12 } : Room).cells ({ frames := 1, cells := 0, slots := 0, locals := 12 } : Room).slots) (s₁.setTop (entryFrame m #[(.ref i), (.ref a)] 2))
  refine own_go (s₁.setTop (mkF m 0 #[.val (.ref i), .val (.ref a)] [])) (fun t_ k_ => castTop (own_ef_ii m i a) k_) ?_
  refine own_go (s₁.setTop (mkF m 1 #[.val (.ref i), .val (.ref a)] [(.ref i)])) (fun t_ k_ => XS.aloadN X0.here hx rfl (hb hby own_d_jdk_49_method_1_0) rfl rfl k_) ?_
  refine own_go (s₁.setTop (mkF m 2 #[.val (.ref i), .val (.ref a)] [(.ref a), (.ref i)])) (fun t_ k_ => XS.aloadN X0.here hx rfl (hb hby own_d_jdk_49_method_1_1) rfl rfl k_) ?_
  obtain ⟨T1, h1, X1, e1, W1, st1⟩ := putF X0 hx hZ hown (host := "") (Or.inl (hw _ (List.mem_of_getElem? (i := 137) rfl))) Via.refl e0 Ft Xi (Or.inr ⟨(hw _ (List.mem_of_getElem? (i := 138) rfl)), rfl, hnm⟩) (hw _ (List.mem_of_getElem? (i := 131) rfl)) (ty := (.object "java/util/ArrayList")) (by decide) rfl rfl (g := (mkF m 2 #[.val (.ref i), .val (.ref a)] [(.ref a), (.ref i)])) rfl rfl (hb hby own_d_jdk_49_method_1_2)
  have Fw1 := Ft.same W1
  have K1 : Keep h0 h1 [i] := (Keep.refl h0 [i]).wr W1 (Or.inl (List.mem_of_getElem? (i := 0) rfl))
  have N1 := Fr.snoc X1 N0 gi
  have O1 := own_extW O W1 gi
  refine own_go (T1.setTop (mkF m 5 #[.val (.ref i), .val (.ref a)] [])) (fun t_ k_ => st1 _ k_) ?_
  refine own_go (T1.setTop (mkF m 6 #[.val (.ref i), .val (.ref a)] [(.ref i)])) (fun t_ k_ => XS.aloadN X1.here hx rfl (hb hby own_d_jdk_49_method_1_5) rfl rfl k_) ?_
  obtain ⟨T2, X2, e2, st2⟩ := initO X1 hx hZ hown (hw _ (List.mem_of_getElem? (i := 139) rfl)) (hw _ (List.mem_of_getElem? (i := 22) rfl)) (hw _ (List.mem_of_getElem? (i := 23) rfl)) e1 (g := (mkF m 6 #[.val (.ref i), .val (.ref a)] [(.ref i)])) rfl (by rw [hml]; rfl) rfl (hb hby own_d_jdk_49_method_1_6) (by decide) (W := 0) (by show 2 * 0 + _ ≤ _; exact Nat.le_of_eq rfl) (by decide)
  refine own_go (T2.setTop (mkF m 9 #[.val (.ref i), .val (.ref a)] [])) (fun t_ k_ => st2 _ k_) ?_
  refine own_go (T2.setTop (mkF m 10 #[.val (.ref i), .val (.ref a)] [(.ref i)])) (fun t_ k_ => XS.aloadN X2.here hx rfl (hb hby own_d_jdk_49_method_1_9) rfl rfl k_) ?_
  refine own_go (T2.setTop (mkF m 11 #[.val (.ref i), .val (.ref a)] [(.int (-1 : Int32)), (.ref i)])) (fun t_ k_ => XS.iconst X2.here hx rfl (hb hby own_d_jdk_49_method_1_10) k_) ?_
  have Fz3 := (Xi.wr W1)
  have Fz4 := (Fr_.other W1 (Or.inr (slot_ne (a0 := a0) (Or.inl (hw _ (List.mem_of_getElem? (i := 141) rfl))) (Or.inr (hw _ (List.mem_of_getElem? (i := 138) rfl))) (by decide) (t := .int) (t' := (.object "java/util/ArrayList")) (by decide) (by decide))))
  obtain ⟨T5, h5, X5, e5, W5, st5⟩ := putF X2 hx hZ hown (host := "") (Or.inl (hw _ (List.mem_of_getElem? (i := 140) rfl))) Via.refl e2 Fz4 Fz3 (Or.inl (hw _ (List.mem_of_getElem? (i := 141) rfl))) (hw _ (List.mem_of_getElem? (i := 131) rfl)) (ty := .int) (by decide) rfl rfl (g := (mkF m 11 #[.val (.ref i), .val (.ref a)] [(.int (-1 : Int32)), (.ref i)])) rfl rfl (hb hby own_d_jdk_49_method_1_11)
  have Fw5 := Fz4.same W5
  have K5 : Keep h0 h5 [i] := K1.wr W5 (Or.inl (List.mem_of_getElem? (i := 0) rfl))
  have N5 := Fr.snoc X5 N1 gi
  have O5 := own_extW O1 W5 gi
  refine own_go (T5.setTop (mkF m 14 #[.val (.ref i), .val (.ref a)] [])) (fun t_ k_ => st5 _ k_) ?_
  refine own_go (T5.setTop (mkF m 15 #[.val (.ref i), .val (.ref a)] [(.ref i)])) (fun t_ k_ => XS.aloadN X5.here hx rfl (hb hby own_d_jdk_49_method_1_14) rfl rfl k_) ?_
  refine own_go (T5.setTop (mkF m 16 #[.val (.ref i), .val (.ref a)] [(.ref i), (.ref i)])) (fun t_ k_ => XS.aloadN X5.here hx rfl (hb hby own_d_jdk_49_method_1_15) rfl rfl k_) ?_
  have Fz6 := (Fw1.other W5 (Or.inr (slot_ne (a0 := a0) (Or.inr (hw _ (List.mem_of_getElem? (i := 138) rfl))) (Or.inl (hw _ (List.mem_of_getElem? (i := 141) rfl))) (by decide) (t := (.object "java/util/ArrayList")) (t' := .int) (by decide) (by decide))))
  obtain ⟨T7, X7, e7, st7⟩ := getF X5 hx hZ hown (host := "") (Or.inl (hw _ (List.mem_of_getElem? (i := 137) rfl))) Via.refl e5 Fz6 (g := (mkF m 16 #[.val (.ref i), .val (.ref a)] [(.ref i), (.ref i)])) rfl rfl (hb hby own_d_jdk_49_method_1_16)
  refine own_go (T7.setTop (mkF m 19 #[.val (.ref i), .val (.ref a)] [(.ref a), (.ref i)])) (fun t_ k_ => st7 _ k_) ?_
  have Fz8 := ((Fm.other W1 (Or.inl (Exa.ne X Xi (by decide)))).other W5 (Or.inl (Exa.ne X Xi (by decide))))
  obtain ⟨T9, X9, e9, st9⟩ := getF X7 hx hZ hown (host := "") (Or.inl (hw _ (List.mem_of_getElem? (i := 142) rfl))) (Via.of (hw _ (List.mem_of_getElem? (i := 143) rfl))) e7 Fz8 (g := (mkF m 19 #[.val (.ref i), .val (.ref a)] [(.ref a), (.ref i)])) rfl rfl (hb hby own_d_jdk_49_method_1_19)
  refine own_go (T9.setTop (mkF m 22 #[.val (.ref i), .val (.ref a)] [(.int (0 : Int32)), (.ref i)])) (fun t_ k_ => st9 _ k_) ?_
  have Fz10 := (Fz3.wr W5)
  have Fz11 := ((Fx.other W1 (Or.inr (slot_ne (a0 := a0) (Or.inl (hw _ (List.mem_of_getElem? (i := 145) rfl))) (Or.inr (hw _ (List.mem_of_getElem? (i := 138) rfl))) (by decide) (t := .int) (t' := (.object "java/util/ArrayList")) (by decide) (by decide)))).other W5 (Or.inr (slot_ne (a0 := a0) (Or.inl (hw _ (List.mem_of_getElem? (i := 145) rfl))) (Or.inl (hw _ (List.mem_of_getElem? (i := 141) rfl))) (by decide) (t := .int) (t' := .int) (by decide) (by decide))))
  obtain ⟨T12, h12, X12, e12, W12, st12⟩ := putF X9 hx hZ hown (host := "") (Or.inl (hw _ (List.mem_of_getElem? (i := 144) rfl))) Via.refl e9 Fz11 Fz10 (Or.inl (hw _ (List.mem_of_getElem? (i := 145) rfl))) (hw _ (List.mem_of_getElem? (i := 131) rfl)) (ty := .int) (by decide) rfl rfl (g := (mkF m 22 #[.val (.ref i), .val (.ref a)] [(.int (0 : Int32)), (.ref i)])) rfl rfl (hb hby own_d_jdk_49_method_1_22)
  have Fw12 := Fz11.same W12
  have K12 : Keep h0 h12 [i] := K5.wr W12 (Or.inl (List.mem_of_getElem? (i := 0) rfl))
  have N12 := Fr.snoc X12 N5 gi
  have O12 := own_extW O5 W12 gi
  refine own_go (T12.setTop (mkF m 25 #[.val (.ref i), .val (.ref a)] [])) (fun t_ k_ => st12 _ k_) ?_
  obtain ⟨fs, hr, hrun, hended, hW, hsame⟩ := X12.leave (v := none) (fun _ => rfl)
  refine ⟨_, _, X12.returnOut hx Bd.returns (hb hby own_d_jdk_49_method_1_25) hr, hrun, hended, _, _, rfl, ?_, ⟨_, rfl⟩, hW, hsame.mono (by decide) (by decide)⟩
  show Q_ii Z i a h0 _ T12.heap _
  have Fz13 := (Fz10.wr W12)
  have Fz14 := (Fz6.other W12 (Or.inr (slot_ne (a0 := a0) (Or.inr (hw _ (List.mem_of_getElem? (i := 138) rfl))) (Or.inl (hw _ (List.mem_of_getElem? (i := 145) rfl))) (by decide) (t := (.object "java/util/ArrayList")) (t' := .int) (by decide) (by decide))))
  have Fz15 := (((Fc.other W1 (Or.inr (slot_ne (a0 := a0) (Or.inl (hw _ (List.mem_of_getElem? (i := 156) rfl))) (Or.inr (hw _ (List.mem_of_getElem? (i := 138) rfl))) (by decide) (t := .int) (t' := (.object "java/util/ArrayList")) (by decide) (by decide)))).other W5 (Or.inr (slot_ne (a0 := a0) (Or.inl (hw _ (List.mem_of_getElem? (i := 156) rfl))) (Or.inl (hw _ (List.mem_of_getElem? (i := 141) rfl))) (by decide) (t := .int) (t' := .int) (by decide) (by decide)))).other W12 (Or.inr (slot_ne (a0 := a0) (Or.inl (hw _ (List.mem_of_getElem? (i := 156) rfl))) (Or.inl (hw _ (List.mem_of_getElem? (i := 145) rfl))) (by decide) (t := .int) (t' := .int) (by decide) (by decide))))
  rw [show T12.heap = h12 from e12]
  exact ⟨rfl, N12, K12, Fz13, Fz14, Fz15⟩
theorem own_ef_ir (m : MethodId) (a : Addr) : entryFrame m #[(.ref a)] 1 = mkF m 0 #[.val (.ref a)] [] := by first | (simp [entryFrame, mkF, argsToLocals, Value.category]; done) | rfl
theorem own_d_jdk_38_method_55_0 : decode jdk_38_method_55_code 0 = .ok (.new 267, 3) := by decide +kernel
theorem own_d_jdk_38_method_55_3 : decode jdk_38_method_55_code 3 = .ok (.dup, 1) := by decide +kernel
theorem own_d_jdk_38_method_55_4 : decode jdk_38_method_55_code 4 = .ok (.aload_n 0, 1) := by decide +kernel
theorem own_d_jdk_38_method_55_5 : decode jdk_38_method_55_code 5 = .ok (.invokespecial 269, 3) := by decide +kernel
theorem own_pd4 : parseMethodDescriptor "(Ljava/util/ArrayList;)V" = some ⟨[(.object "java/util/ArrayList")], none⟩ := by decide +kernel
theorem own_d_jdk_38_method_55_8 : decode jdk_38_method_55_code 8 = .ok (.areturn, 1) := by decide +kernel
def Q_ir (Z : State) (a : Addr) (h0 : Heap) (v_ : Option Value) (h : Heap) (L_ : List Loc) : Prop := ∃ (i : Addr), v_ = some (.ref i) ∧ Fr Z.heap.size L_ ∧ (Keep h0 h [] ∧ Exa Z h i "java/util/ArrayList$Itr" ∧ Fld Z h i "java/util/ArrayList$Itr" "this$0" "Ljava/util/ArrayList;" (.ref a) ∧ Fld Z h i "java/util/ArrayList$Itr" "cursor" "I" (.int 0))
set_option maxRecDepth 65536 in
set_option maxHeartbeats 40000000 in
theorem rm_ir (l : Launch) (Z : State) (a0 : Array Value) (hw : ∀ d ∈ tables_1, d.before a0 Z = true) (ws : List Jvm.Cond) (a : Addr) (h0 : Heap) (O : Ext Z.heap h0) (X : Exa Z h0 a "java/util/ArrayList") (Fm : Fld Z h0 a "java/util/AbstractList" "modCount" "I" (.int 0)) :
    MetFree l (⟨"java/util/ArrayList", "iterator", "()Ljava/util/Iterator;"⟩ : MethodName) (head1 (Jvm.Cond.code (⟨"java/util/ArrayList", "iterator", "()Ljava/util/Iterator;"⟩ : MethodName) jdk_38_method_55_code 1 (some (.object "java/util/Iterator")) :: ws) ({ frames := 2, cells := 1, slots := 4, locals := 26 } : Room)) (fun a_ U_ => a_ = #[(.ref a)] ∧ Z.Warmed39 U_.vm ∧ U_.heap = h0) (fun _ _ _ _ _ => True) (fun _ U_ o_ U2_ => ∃ v_ L_, o_ = .returned v_ ∧ Q_ir Z a h0 v_ U2_.heap L_ ∧ FrameEnd U_ o_ U2_ L_ ({ frames := 2, cells := 1, slots := 4, locals := 26 } : Room).cells ({ frames := 2, cells := 1, slots := 4, locals := 26 } : Room).slots) := by
  refine MetFree.of_bodySF (plainFor_of_name own_pn6) hisR ?_
  intro p e s m args below meth c s₁ Bd hml0 hP hK
  obtain ⟨rfl, hZ, hh⟩ := hP
  have hx := Bd.exec
  have hby := Bd.bytes
  have hml : c.maxLocals = 1 := hml0
  have hown : s.vm.findClass "java/util/ArrayList" = some m.cls := findClass_of_methodNamed Bd.named
  have hnm := (name_of_methodNamed Bd.named Bd.method).1
  have X0 : Stand p l e ({ frames := 2, cells := 1, slots := 4, locals := 26 } : Room) s m #[(.ref a)] below meth c s₁ [] 0 0 := Stand.of_body Bd
  have e0 : s₁.heap = h0 := by rw [← hh, Bd.state]; rfl
  have N0 := Fr.nil Z.heap.size
  show own_G p e below (fun o_ s₂ => ∃ v_ L_, o_ = .returned v_ ∧ Q_ir Z a h0 v_ s₂.heap L_ ∧ FrameEnd s o_ s₂ L_ ({ frames := 2, cells := 1, slots := 4, locals := 26 } : Room).cells ({ frames := 2, cells := 1, slots := 4, locals := 26 } : Room).slots) (s₁.setTop (entryFrame m #[(.ref a)] 1))
  refine own_go (s₁.setTop (mkF m 0 #[.val (.ref a)] [])) (fun t_ k_ => castTop (own_ef_ir m a) k_) ?_
  obtain ⟨T1, h1, X1, e1, E1, A1, D1, U1, st1⟩ := newO X0 hx hZ hown (hw _ (List.mem_of_getElem? (i := 130) rfl)) (hw _ (List.mem_of_getElem? (i := 131) rfl)) (hw _ (List.mem_of_getElem? (i := 132) rfl)) e0 (g := (mkF m 0 #[.val (.ref a)] [])) rfl (hb hby own_d_jdk_38_method_55_0) (by decide) (by decide)
  obtain ⟨b1, g1⟩ : ∃ z, z = h0.size := ⟨_, rfl⟩
  rw [← g1] at A1 D1 U1 st1
  have ge_b1 : Z.heap.size ≤ b1 := Nat.le_trans O.1 (Nat.le_of_eq g1.symm)
  have sz_b1 : h0.size ≤ b1 := Nat.le_trans (Keep.refl h0 []).1 (Nat.le_of_eq g1.symm)
  have K1 : Keep h0 h1 [] := (Keep.refl h0 []).ext E1
  have O1 := own_ext O E1
  have Fthis_0_1 : Fld Z h1 b1 "java/util/ArrayList$Itr" "this$0" "Ljava/util/ArrayList;" .null := D1 (Or.inr (hw _ (List.mem_of_getElem? (i := 138) rfl))) (ty := (.object "java/util/ArrayList")) (by decide)
  have FlastRet_1 : Fld Z h1 b1 "java/util/ArrayList$Itr" "lastRet" "I" (.int (0 : Int32)) := D1 (Or.inl (hw _ (List.mem_of_getElem? (i := 141) rfl))) (ty := .int) (by decide)
  have FexpectedModCount_1 : Fld Z h1 b1 "java/util/ArrayList$Itr" "expectedModCount" "I" (.int (0 : Int32)) := D1 (Or.inl (hw _ (List.mem_of_getElem? (i := 145) rfl))) (ty := .int) (by decide)
  have Fcursor_1 : Fld Z h1 b1 "java/util/ArrayList$Itr" "cursor" "I" (.int (0 : Int32)) := D1 (Or.inl (hw _ (List.mem_of_getElem? (i := 156) rfl))) (ty := .int) (by decide)
  refine own_go (T1.setTop (mkF m 3 #[.val (.ref a)] [(.ref b1)])) (fun t_ k_ => st1 _ k_) ?_
  refine own_go (T1.setTop (mkF m 4 #[.val (.ref a)] [(.ref b1), (.ref b1)])) (fun t_ k_ => XS.dup X1.here hx rfl (hb hby own_d_jdk_38_method_55_3) rfl rfl k_) ?_
  refine own_go (T1.setTop (mkF m 5 #[.val (.ref a)] [(.ref a), (.ref b1), (.ref b1)])) (fun t_ k_ => XS.aloadN X1.here hx rfl (hb hby own_d_jdk_38_method_55_4) rfl rfl k_) ?_
  have Fz2 := (X.ext E1)
  have Fz3 := (Fm.ext E1)
  obtain ⟨_, _, ⟨T4, Lu4, ku4, nu4⟩, -, X4, ⟨Lc4, hQ4, lu4, yu4, zu4⟩, st4⟩ := X1.specialBack hx (y := (⟨"java/util/ArrayList$Itr", "<init>", "(Ljava/util/ArrayList;)V"⟩ : MethodName)) rfl hown (mvT hZ (hw _ (List.mem_of_getElem? (i := 133) rfl))) (mvT hZ (hw _ (List.mem_of_getElem? (i := 134) rfl))) (mvT hZ (hw _ (List.mem_of_getElem? (i := 136) rfl))) (by decide) (backOf (W := 1) (rm_ii l Z a0 hw [] (b1) (a) h1 O1 A1 Fthis_0_1 Fcursor_1 FlastRet_1 FexpectedModCount_1 ge_b1 Fz2 Fz3) hZ (hw _ (List.mem_of_getElem? (i := 136) rfl)) (hw _ (List.mem_of_getElem? (i := 132) rfl)) (by decide) (by decide)) (g := (mkF m 5 #[.val (.ref a)] [(.ref a), (.ref b1), (.ref b1)])) rfl (by rw [hml]; rfl) (Steps.refl _) (a := b1) (argsL := [(.ref a)]) (rest := [(.ref b1)]) (lenOf own_pd4 rfl) rfl (by show 2 * 0 + _ ≤ _; exact Nat.le_of_eq rfl) (hb hby own_d_jdk_38_method_55_5) (fun _ _ => ⟨rfl, e1, (by decide : 1 + 0 ≤ _), (by decide : 4 + 0 ≤ _)⟩)
  dsimp only [Pt.U, Pt.locs, Pt.cells, Pt.slots] at X4 lu4 yu4 zu4 st4 hQ4
  subst lu4 yu4 zu4
  obtain ⟨rfl, N4q, K4q, X4q, T4q, C4q⟩ := hQ4
  have N4 := Fr.app N0 N4q
  have O4 := own_extK O1 K4q (allS ge_b1 all0)
  have KK4 : Keep h0 T4.heap [] := K1.trans K4q (allS (Or.inr sz_b1) all0)
  refine own_go (T4.setTop (mkF m 8 #[.val (.ref a)] [(.ref b1)])) (fun t_ k_ => st4.trans k_) ?_
  obtain ⟨fs, hr, hrun, hended, hW, hsame⟩ := X4.leave (v := some (.ref b1)) (fun h => by rw [Bd.returns] at h; cases h)
  refine ⟨_, _, Jvm.RoadKit.retOut X4 hx Bd.returns rfl (Or.inr (Or.inr (Or.inr (Or.inr ⟨rfl, rfl, rfl⟩)))) (hb hby own_d_jdk_38_method_55_8) hr, hrun, hended, _, _, rfl, ?_, ⟨_, rfl⟩, hW, hsame.mono (by decide) (by decide)⟩
  show Q_ir Z a h0 _ T4.heap _
  exact ⟨_, rfl, N4, KK4, X4q, T4q, C4q⟩
theorem own_ef_hasn (m : MethodId) (i : Addr) : entryFrame m #[(.ref i)] 1 = mkF m 0 #[.val (.ref i)] [] := by first | (simp [entryFrame, mkF, argsToLocals, Value.category]; done) | rfl
theorem own_d_jdk_49_method_2_0 : decode jdk_49_method_2_code 0 = .ok (.aload_n 0, 1) := by decide +kernel
theorem own_d_jdk_49_method_2_1 : decode jdk_49_method_2_code 1 = .ok (.getfield 25, 3) := by decide +kernel
theorem own_d_jdk_49_method_2_4 : decode jdk_49_method_2_code 4 = .ok (.aload_n 0, 1) := by decide +kernel
theorem own_d_jdk_49_method_2_5 : decode jdk_49_method_2_code 5 = .ok (.getfield 1, 3) := by decide +kernel
theorem own_d_jdk_49_method_2_8 : decode jdk_49_method_2_code 8 = .ok (.getfield 28, 3) := by decide +kernel
theorem own_d_jdk_49_method_2_11 : decode jdk_49_method_2_code 11 = .ok (.if_icmp .eq 7, 3) := by decide +kernel
theorem own_d_jdk_49_method_2_18 : decode jdk_49_method_2_code 18 = .ok (.iconst 0, 1) := by decide +kernel
theorem own_d_jdk_49_method_2_19 : decode jdk_49_method_2_code 19 = .ok (.ireturn, 1) := by decide +kernel
def Q_hasn (Z : State) (i : Addr) (a : Addr) (h0 : Heap) (v_ : Option Value) (h : Heap) (L_ : List Loc) : Prop := v_ = some (.int 0) ∧ Fr Z.heap.size L_ ∧ (h = h0)
set_option maxRecDepth 65536 in
set_option maxHeartbeats 40000000 in
theorem rm_hasn (l : Launch) (Z : State) (a0 : Array Value) (hw : ∀ d ∈ tables_1, d.before a0 Z = true) (ws : List Jvm.Cond) (i : Addr) (a : Addr) (h0 : Heap) (O : Ext Z.heap h0) (Ft : Fld Z h0 i "java/util/ArrayList$Itr" "this$0" "Ljava/util/ArrayList;" (.ref a)) (Fc : Fld Z h0 i "java/util/ArrayList$Itr" "cursor" "I" (.int 0)) (Fs : Fld Z h0 a "java/util/ArrayList" "size" "I" (.int 0)) :
    MetFree l (⟨"java/util/ArrayList$Itr", "hasNext", "()Z"⟩ : MethodName) (head1 (Jvm.Cond.code (⟨"java/util/ArrayList$Itr", "hasNext", "()Z"⟩ : MethodName) jdk_49_method_2_code 1 (some .boolean) :: ws) ({ frames := 0, cells := 0, slots := 0, locals := 0 } : Room)) (fun a_ U_ => a_ = #[(.ref i)] ∧ Z.Warmed39 U_.vm ∧ U_.heap = h0) (fun _ _ _ _ _ => True) (fun _ U_ o_ U2_ => ∃ v_ L_, o_ = .returned v_ ∧ Q_hasn Z i a h0 v_ U2_.heap L_ ∧ FrameEnd U_ o_ U2_ L_ ({ frames := 0, cells := 0, slots := 0, locals := 0 } : Room).cells ({ frames := 0, cells := 0, slots := 0, locals := 0 } : Room).slots) := by
  refine MetFree.of_bodySF (plainFor_of_name own_pn7) hisR ?_
  intro p e s m args below meth c s₁ Bd hml0 hP hK
  obtain ⟨rfl, hZ, hh⟩ := hP
  have hx := Bd.exec
  have hby := Bd.bytes
  have hml : c.maxLocals = 1 := hml0
  have hown : s.vm.findClass "java/util/ArrayList$Itr" = some m.cls := findClass_of_methodNamed Bd.named
  have hnm := (name_of_methodNamed Bd.named Bd.method).1
  have X0 : Stand p l e ({ frames := 0, cells := 0, slots := 0, locals := 0 } : Room) s m #[(.ref i)] below meth c s₁ [] 0 0 := Stand.of_body Bd
  have e0 : s₁.heap = h0 := by rw [← hh, Bd.state]; rfl
  have N0 := Fr.nil Z.heap.size
  show own_G p e below (fun o_ s₂ => ∃ v_ L_, o_ = .returned v_ ∧ Q_hasn Z i a h0 v_ s₂.heap L_ ∧ FrameEnd s o_ s₂ L_ ({ frames := 0, cells := 0, slots := 0, locals := 0 } : Room).cells ({ frames := 0, cells := 0, slots := 0, locals := 0 } : Room).slots) (s₁.setTop (entryFrame m #[(.ref i)] 1))
  refine own_go (s₁.setTop (mkF m 0 #[.val (.ref i)] [])) (fun t_ k_ => castTop (own_ef_hasn m i) k_) ?_
  refine own_go (s₁.setTop (mkF m 1 #[.val (.ref i)] [(.ref i)])) (fun t_ k_ => XS.aloadN X0.here hx rfl (hb hby own_d_jdk_49_method_2_0) rfl rfl k_) ?_
  obtain ⟨T1, X1, e1, st1⟩ := getF X0 hx hZ hown (host := "") (Or.inl (hw _ (List.mem_of_getElem? (i := 155) rfl))) Via.refl e0 Fc (g := (mkF m 1 #[.val (.ref i)] [(.ref i)])) rfl rfl (hb hby own_d_jdk_49_method_2_1)
  refine own_go (T1.setTop (mkF m 4 #[.val (.ref i)] [(.int (0 : Int32))])) (fun t_ k_ => st1 _ k_) ?_
  refine own_go (T1.setTop (mkF m 5 #[.val (.ref i)] [(.ref i), (.int (0 : Int32))])) (fun t_ k_ => XS.aloadN X1.here hx rfl (hb hby own_d_jdk_49_method_2_4) rfl rfl k_) ?_
  obtain ⟨T2, X2, e2, st2⟩ := getF X1 hx hZ hown (host := "") (Or.inl (hw _ (List.mem_of_getElem? (i := 137) rfl))) Via.refl e1 Ft (g := (mkF m 5 #[.val (.ref i)] [(.ref i), (.int (0 : Int32))])) rfl rfl (hb hby own_d_jdk_49_method_2_5)
  refine own_go (T2.setTop (mkF m 8 #[.val (.ref i)] [(.ref a), (.int (0 : Int32))])) (fun t_ k_ => st2 _ k_) ?_
  obtain ⟨T3, X3, e3, st3⟩ := getF X2 hx hZ hown (Or.inr (hw _ (List.mem_of_getElem? (i := 157) rfl))) Via.refl e2 Fs (g := (mkF m 8 #[.val (.ref i)] [(.ref a), (.int (0 : Int32))])) rfl rfl (hb hby own_d_jdk_49_method_2_8)
  refine own_go (T3.setTop (mkF m 11 #[.val (.ref i)] [(.int (0 : Int32)), (.int (0 : Int32))])) (fun t_ k_ => st3 _ k_) ?_
  refine own_go (T3.setTop (mkF m 18 #[.val (.ref i)] [])) (fun t_ k_ => XS.icmpYes X3.here hx rfl (pc0 := 11) (pc' := 18) rfl (hb hby own_d_jdk_49_method_2_11) rfl (teq (by decide : (0 : Int32) = (0 : Int32))).1 (by decide) (by decide) k_) ?_
  refine own_go (T3.setTop (mkF m 19 #[.val (.ref i)] [(.int (0 : Int32))])) (fun t_ k_ => XS.iconst X3.here hx rfl (hb hby own_d_jdk_49_method_2_18) k_) ?_
  obtain ⟨fs, hr, hrun, hended, hW, hsame⟩ := X3.leave (v := some (.int (nar .boolean (0 : Int32)))) (fun h => by rw [Bd.returns] at h; cases h)
  refine ⟨_, _, retN X3 hx (t := .boolean) Bd.returns (by simp) (hb hby own_d_jdk_49_method_2_19) hr, hrun, hended, _, _, rfl, ?_, ⟨_, rfl⟩, hW, hsame.mono (by decide) (by decide)⟩
  show Q_hasn Z i a h0 _ T3.heap _
  exact ⟨rfl, N0, e3⟩
theorem own_pn8 : plainName "java/util/Collections$UnmodifiableCollection" = true := by first | (simp [plainName, overriddenIn]; done) | decide +kernel
theorem own_ef_uc (m : MethodId) (a : Addr) (q : Addr) : entryFrame m #[(.ref a), (.ref q)] 2 = mkF m 0 #[.val (.ref a), .val (.ref q)] [] := by first | (simp [entryFrame, mkF, argsToLocals, Value.category]; done) | rfl
theorem own_d_jdk_119_method_1_0 : decode jdk_119_method_1_code 0 = .ok (.aload_n 0, 1) := by decide +kernel
theorem own_d_jdk_119_method_1_1 : decode jdk_119_method_1_code 1 = .ok (.invokespecial 1, 3) := by decide +kernel
theorem own_d_jdk_119_method_1_4 : decode jdk_119_method_1_code 4 = .ok (.aload_n 1, 1) := by decide +kernel
theorem own_d_jdk_119_method_1_5 : decode jdk_119_method_1_code 5 = .ok (.ifnonnull 11, 3) := by decide +kernel
theorem own_d_jdk_119_method_1_16 : decode jdk_119_method_1_code 16 = .ok (.aload_n 0, 1) := by decide +kernel
theorem own_d_jdk_119_method_1_17 : decode jdk_119_method_1_code 17 = .ok (.aload_n 1, 1) := by decide +kernel
theorem own_d_jdk_119_method_1_18 : decode jdk_119_method_1_code 18 = .ok (.putfield 10, 3) := by decide +kernel
theorem own_d_jdk_119_method_1_21 : decode jdk_119_method_1_code 21 = .ok (.return_, 1) := by decide +kernel
def Q_uc (Z : State) (a : Addr) (q : Addr) (h0 : Heap) (v_ : Option Value) (h : Heap) (L_ : List Loc) : Prop := v_ = none ∧ Fr Z.heap.size L_ ∧ (Keep h0 h [a] ∧ Exa Z h a "java/util/Collections$UnmodifiableRandomAccessList" ∧ Fld Z h a "java/util/Collections$UnmodifiableCollection" "c" "Ljava/util/Collection;" (.ref q) ∧ Fld Z h a "java/util/Collections$UnmodifiableList" "list" "Ljava/util/List;" .null)
set_option maxRecDepth 65536 in
set_option maxHeartbeats 40000000 in
theorem rm_uc (l : Launch) (Z : State) (a0 : Array Value) (hw : ∀ d ∈ tables_1, d.before a0 Z = true) (ws : List Jvm.Cond) (a : Addr) (q : Addr) (h0 : Heap) (O : Ext Z.heap h0) (X : Exa Z h0 a "java/util/Collections$UnmodifiableRandomAccessList") (Fc : Fld Z h0 a "java/util/Collections$UnmodifiableCollection" "c" "Ljava/util/Collection;" .null) (Fl : Fld Z h0 a "java/util/Collections$UnmodifiableList" "list" "Ljava/util/List;" .null) (ga : Z.heap.size ≤ a) :
    MetFree l (⟨"java/util/Collections$UnmodifiableCollection", "<init>", "(Ljava/util/Collection;)V"⟩ : MethodName) (head1 (Jvm.Cond.code (⟨"java/util/Collections$UnmodifiableCollection", "<init>", "(Ljava/util/Collection;)V"⟩ : MethodName) jdk_119_method_1_code 2 none :: ws) ({ frames := 1, cells := 0, slots := 0, locals := 12 } : Room)) (fun a_ U_ => a_ = #[(.ref a), (.ref q)] ∧ Z.Warmed39 U_.vm ∧ U_.heap = h0) (fun _ _ _ _ _ => True) (fun _ U_ o_ U2_ => ∃ v_ L_, o_ = .returned v_ ∧ Q_uc Z a q h0 v_ U2_.heap L_ ∧ FrameEnd U_ o_ U2_ L_ ({ frames := 1, cells := 0, slots := 0, locals := 12 } : Room).cells ({ frames := 1, cells := 0, slots := 0, locals := 12 } : Room).slots) := by
  refine MetFree.of_bodySF (plainFor_of_name own_pn8) hisR ?_
  intro p e s m args below meth c s₁ Bd hml0 hP hK
  obtain ⟨rfl, hZ, hh⟩ := hP
  have hx := Bd.exec
  have hby := Bd.bytes
  have hml : c.maxLocals = 2 := hml0
  have hown : s.vm.findClass "java/util/Collections$UnmodifiableCollection" = some m.cls := findClass_of_methodNamed Bd.named
  have hnm := (name_of_methodNamed Bd.named Bd.method).1
  have X0 : Stand p l e ({ frames := 1, cells := 0, slots := 0, locals := 12 } : Room) s m #[(.ref a), (.ref q)] below meth c s₁ [] 0 0 := Stand.of_body Bd
  have e0 : s₁.heap = h0 := by rw [← hh, Bd.state]; rfl
  have N0 := Fr.nil Z.heap.size
  show own_G p e below (fun o_ s₂ => ∃ v_ L_, o_ = .returned v_ ∧ Q_uc Z a q h0 v_ s₂.heap L_ ∧ FrameEnd s o_ s₂ L_ ({ frames := 1, cells := 0, slots := 0, locals := 12 } : Room).cells ({ frames := 1, cells := 0, slots := 0, locals := 12 } : Room).slots) (s₁.setTop (entryFrame m #[(.ref a), (.ref q)] 2))
  refine own_go (s₁.setTop (mkF m 0 #[.val (.ref a), .val (.ref q)] [])) (fun t_ k_ => castTop (own_ef_uc m a q) k_) ?_
  refine own_go (s₁.setTop (mkF m 1 #[.val (.ref a), .val (.ref q)] [(.ref a)])) (fun t_ k_ => XS.aloadN X0.here hx rfl (hb hby own_d_jdk_119_method_1_0) rfl rfl k_) ?_
  obtain ⟨T1, X1, e1, st1⟩ := initO X0 hx hZ hown (hw _ (List.mem_of_getElem? (i := 195) rfl)) (hw _ (List.mem_of_getElem? (i := 22) rfl)) (hw _ (List.mem_of_getElem? (i := 23) rfl)) e0 (g := (mkF m 1 #[.val (.ref a), .val (.ref q)] [(.ref a)])) rfl (by rw [hml]; rfl) rfl (hb hby own_d_jdk_119_method_1_1) (by decide) (W := 0) (by show 2 * 0 + _ ≤ _; exact Nat.le_of_eq rfl) (by decide)
  refine own_go (T1.setTop (mkF m 4 #[.val (.ref a), .val (.ref q)] [])) (fun t_ k_ => st1 _ k_) ?_
  refine own_go (T1.setTop (mkF m 5 #[.val (.ref a), .val (.ref q)] [(.ref q)])) (fun t_ k_ => XS.aloadN X1.here hx rfl (hb hby own_d_jdk_119_method_1_4) rfl rfl k_) ?_
  refine own_go (T1.setTop (mkF m 16 #[.val (.ref a), .val (.ref q)] [])) (fun t_ k_ => XS.ifnonnullYes X1.here hx rfl (pc0 := 5) (pc' := 16) rfl (hb hby own_d_jdk_119_method_1_5) rfl (by decide) (by decide) k_) ?_
  refine own_go (T1.setTop (mkF m 17 #[.val (.ref a), .val (.ref q)] [(.ref a)])) (fun t_ k_ => XS.aloadN X1.here hx rfl (hb hby own_d_jdk_119_method_1_16) rfl rfl k_) ?_
  refine own_go (T1.setTop (mkF m 18 #[.val (.ref a), .val (.ref q)] [(.ref q), (.ref a)])) (fun t_ k_ => XS.aloadN X1.here hx rfl (hb hby own_d_jdk_119_method_1_17) rfl rfl k_) ?_
  obtain ⟨T2, h2, X2, e2, W2, st2⟩ := putF X1 hx hZ hown (host := "") (Or.inl (hw _ (List.mem_of_getElem? (i := 196) rfl))) Via.refl e1 Fc X (Or.inr ⟨(hw _ (List.mem_of_getElem? (i := 197) rfl)), rfl, hnm⟩) (hw _ (List.mem_of_getElem? (i := 178) rfl)) (ty := (.object "java/util/Collection")) (by decide) rfl rfl (g := (mkF m 18 #[.val (.ref a), .val (.ref q)] [(.ref q), (.ref a)])) rfl rfl (hb hby own_d_jdk_119_method_1_18)
  have Fw2 := Fc.same W2
  have K2 : Keep h0 h2 [a] := (Keep.refl h0 [a]).wr W2 (Or.inl (List.mem_of_getElem? (i := 0) rfl))
  have N2 := Fr.snoc X2 N0 ga
  have O2 := own_extW O W2 ga
  refine own_go (T2.setTop (mkF m 21 #[.val (.ref a), .val (.ref q)] [])) (fun t_ k_ => st2 _ k_) ?_
  obtain ⟨fs, hr, hrun, hended, hW, hsame⟩ := X2.leave (v := none) (fun _ => rfl)
  refine ⟨_, _, X2.returnOut hx Bd.returns (hb hby own_d_jdk_119_method_1_21) hr, hrun, hended, _, _, rfl, ?_, ⟨_, rfl⟩, hW, hsame.mono (by decide) (by decide)⟩
  show Q_uc Z a q h0 _ T2.heap _
  have Fz3 := (X.wr W2)
  have Fz4 := (Fl.other W2 (Or.inr (slot_ne (a0 := a0) (Or.inr (hw _ (List.mem_of_getElem? (i := 199) rfl))) (Or.inr (hw _ (List.mem_of_getElem? (i := 197) rfl))) (by decide) (t := (.object "java/util/List")) (t' := (.object "java/util/Collection")) (by decide) (by decide))))
  rw [show T2.heap = h2 from e2]
  exact ⟨rfl, N2, K2, Fz3, Fw2, Fz4⟩
theorem own_pn9 : plainName "java/util/Collections$UnmodifiableList" = true := by first | (simp [plainName, overriddenIn]; done) | decide +kernel
theorem own_ef_ul (m : MethodId) (a : Addr) (q : Addr) : entryFrame m #[(.ref a), (.ref q)] 2 = mkF m 0 #[.val (.ref a), .val (.ref q)] [] := by first | (simp [entryFrame, mkF, argsToLocals, Value.category]; done) | rfl
theorem own_d_jdk_120_method_1_0 : decode jdk_120_method_1_code 0 = .ok (.aload_n 0, 1) := by decide +kernel
theorem own_d_jdk_120_method_1_1 : decode jdk_120_method_1_code 1 = .ok (.aload_n 1, 1) := by decide +kernel
theorem own_d_jdk_120_method_1_2 : decode jdk_120_method_1_code 2 = .ok (.invokespecial 1, 3) := by decide +kernel
theorem own_pd5 : parseMethodDescriptor "(Ljava/util/Collection;)V" = some ⟨[(.object "java/util/Collection")], none⟩ := by decide +kernel
theorem own_d_jdk_120_method_1_5 : decode jdk_120_method_1_code 5 = .ok (.aload_n 0, 1) := by decide +kernel
theorem own_d_jdk_120_method_1_6 : decode jdk_120_method_1_code 6 = .ok (.aload_n 1, 1) := by decide +kernel
theorem own_d_jdk_120_method_1_7 : decode jdk_120_method_1_code 7 = .ok (.putfield 7, 3) := by decide +kernel
theorem own_d_jdk_120_method_1_10 : decode jdk_120_method_1_code 10 = .ok (.return_, 1) := by decide +kernel
def Q_ul (Z : State) (a : Addr) (q : Addr) (h0 : Heap) (v_ : Option Value) (h : Heap) (L_ : List Loc) : Prop := v_ = none ∧ Fr Z.heap.size L_ ∧ (Keep h0 h [a] ∧ Exa Z h a "java/util/Collections$UnmodifiableRandomAccessList" ∧ Fld Z h a "java/util/Collections$UnmodifiableCollection" "c" "Ljava/util/Collection;" (.ref q) ∧ Fld Z h a "java/util/Collections$UnmodifiableList" "list" "Ljava/util/List;" (.ref q))
set_option maxRecDepth 65536 in
set_option maxHeartbeats 40000000 in
theorem rm_ul (l : Launch) (Z : State) (a0 : Array Value) (hw : ∀ d ∈ tables_1, d.before a0 Z = true) (ws : List Jvm.Cond) (a : Addr) (q : Addr) (h0 : Heap) (O : Ext Z.heap h0) (X : Exa Z h0 a "java/util/Collections$UnmodifiableRandomAccessList") (Fc : Fld Z h0 a "java/util/Collections$UnmodifiableCollection" "c" "Ljava/util/Collection;" .null) (Fl : Fld Z h0 a "java/util/Collections$UnmodifiableList" "list" "Ljava/util/List;" .null) (ga : Z.heap.size ≤ a) :
    MetFree l (⟨"java/util/Collections$UnmodifiableList", "<init>", "(Ljava/util/List;)V"⟩ : MethodName) (head1 (Jvm.Cond.code (⟨"java/util/Collections$UnmodifiableList", "<init>", "(Ljava/util/List;)V"⟩ : MethodName) jdk_120_method_1_code 2 none :: ws) ({ frames := 2, cells := 0, slots := 0, locals := 25 } : Room)) (fun a_ U_ => a_ = #[(.ref a), (.ref q)] ∧ Z.Warmed39 U_.vm ∧ U_.heap = h0) (fun _ _ _ _ _ => True) (fun _ U_ o_ U2_ => ∃ v_ L_, o_ = .returned v_ ∧ Q_ul Z a q h0 v_ U2_.heap L_ ∧ FrameEnd U_ o_ U2_ L_ ({ frames := 2, cells := 0, slots := 0, locals := 25 } : Room).cells ({ frames := 2, cells := 0, slots := 0, locals := 25 } : Room).slots) := by
  refine MetFree.of_bodySF (plainFor_of_name own_pn9) hisR ?_
  intro p e s m args below meth c s₁ Bd hml0 hP hK
  obtain ⟨rfl, hZ, hh⟩ := hP
  have hx := Bd.exec
  have hby := Bd.bytes
  have hml : c.maxLocals = 2 := hml0
  have hown : s.vm.findClass "java/util/Collections$UnmodifiableList" = some m.cls := findClass_of_methodNamed Bd.named
  have hnm := (name_of_methodNamed Bd.named Bd.method).1
  have X0 : Stand p l e ({ frames := 2, cells := 0, slots := 0, locals := 25 } : Room) s m #[(.ref a), (.ref q)] below meth c s₁ [] 0 0 := Stand.of_body Bd
  have e0 : s₁.heap = h0 := by rw [← hh, Bd.state]; rfl
  have N0 := Fr.nil Z.heap.size
  show own_G p e below (fun o_ s₂ => ∃ v_ L_, o_ = .returned v_ ∧ Q_ul Z a q h0 v_ s₂.heap L_ ∧ FrameEnd s o_ s₂ L_ ({ frames := 2, cells := 0, slots := 0, locals := 25 } : Room).cells ({ frames := 2, cells := 0, slots := 0, locals := 25 } : Room).slots) (s₁.setTop (entryFrame m #[(.ref a), (.ref q)] 2))
  refine own_go (s₁.setTop (mkF m 0 #[.val (.ref a), .val (.ref q)] [])) (fun t_ k_ => castTop (own_ef_ul m a q) k_) ?_
  refine own_go (s₁.setTop (mkF m 1 #[.val (.ref a), .val (.ref q)] [(.ref a)])) (fun t_ k_ => XS.aloadN X0.here hx rfl (hb hby own_d_jdk_120_method_1_0) rfl rfl k_) ?_
  refine own_go (s₁.setTop (mkF m 2 #[.val (.ref a), .val (.ref q)] [(.ref q), (.ref a)])) (fun t_ k_ => XS.aloadN X0.here hx rfl (hb hby own_d_jdk_120_method_1_1) rfl rfl k_) ?_
  obtain ⟨_, _, ⟨T1, Lu1, ku1, nu1⟩, -, X1, ⟨Lc1, hQ1, lu1, yu1, zu1⟩, st1⟩ := X0.specialBack hx (y := (⟨"java/util/Collections$UnmodifiableCollection", "<init>", "(Ljava/util/Collection;)V"⟩ : MethodName)) rfl hown (mvT hZ (hw _ (List.mem_of_getElem? (i := 189) rfl))) (mvT hZ (hw _ (List.mem_of_getElem? (i := 190) rfl))) (mvT hZ (hw _ (List.mem_of_getElem? (i := 194) rfl))) (by decide) (backOf (W := 0) (rm_uc l Z a0 hw [] (a) (q) h0 O X Fc Fl ga) hZ (hw _ (List.mem_of_getElem? (i := 194) rfl)) (hw _ (List.mem_of_getElem? (i := 193) rfl)) (by decide) (by decide)) (g := (mkF m 2 #[.val (.ref a), .val (.ref q)] [(.ref q), (.ref a)])) rfl (by rw [hml]; rfl) (Steps.refl _) (a := a) (argsL := [(.ref q)]) (rest := []) (lenOf own_pd5 rfl) rfl (by show 2 * 0 + _ ≤ _; exact Nat.le_of_eq rfl) (hb hby own_d_jdk_120_method_1_2) (fun _ _ => ⟨rfl, e0, (by decide : 0 + 0 ≤ _), (by decide : 0 + 0 ≤ _)⟩)
  dsimp only [Pt.U, Pt.locs, Pt.cells, Pt.slots] at X1 lu1 yu1 zu1 st1 hQ1
  subst lu1 yu1 zu1
  obtain ⟨rfl, N1q, K1q, X1q, C1q, L1q⟩ := hQ1
  have N1 := Fr.app N0 N1q
  have O1 := own_extK O K1q (allS ga all0)
  have KK1 : Keep h0 T1.heap [a] := (Keep.refl h0 [a]).trans K1q (allS (Or.inl (List.mem_of_getElem? (i := 0) rfl)) all0)
  refine own_go (T1.setTop (mkF m 5 #[.val (.ref a), .val (.ref q)] [])) (fun t_ k_ => st1.trans k_) ?_
  refine own_go (T1.setTop (mkF m 6 #[.val (.ref a), .val (.ref q)] [(.ref a)])) (fun t_ k_ => XS.aloadN X1.here hx rfl (hb hby own_d_jdk_120_method_1_5) rfl rfl k_) ?_
  refine own_go (T1.setTop (mkF m 7 #[.val (.ref a), .val (.ref q)] [(.ref q), (.ref a)])) (fun t_ k_ => XS.aloadN X1.here hx rfl (hb hby own_d_jdk_120_method_1_6) rfl rfl k_) ?_
  obtain ⟨T2, h2, X2, e2, W2, st2⟩ := putF X1 hx hZ hown (host := "") (Or.inl (hw _ (List.mem_of_getElem? (i := 198) rfl))) Via.refl rfl L1q X1q (Or.inr ⟨(hw _ (List.mem_of_getElem? (i := 199) rfl)), rfl, hnm⟩) (hw _ (List.mem_of_getElem? (i := 178) rfl)) (ty := (.object "java/util/List")) (by decide) rfl rfl (g := (mkF m 7 #[.val (.ref a), .val (.ref q)] [(.ref q), (.ref a)])) rfl rfl (hb hby own_d_jdk_120_method_1_7)
  have Fw2 := L1q.same W2
  have K2 : Keep h0 h2 [a] := KK1.wr W2 (Or.inl (List.mem_of_getElem? (i := 0) rfl))
  have N2 := Fr.snoc X2 N1 ga
  have O2 := own_extW O1 W2 ga
  refine own_go (T2.setTop (mkF m 10 #[.val (.ref a), .val (.ref q)] [])) (fun t_ k_ => st2 _ k_) ?_
  obtain ⟨fs, hr, hrun, hended, hW, hsame⟩ := X2.leave (v := none) (fun _ => rfl)
  refine ⟨_, _, X2.returnOut hx Bd.returns (hb hby own_d_jdk_120_method_1_10) hr, hrun, hended, _, _, rfl, ?_, ⟨_, rfl⟩, hW, hsame.mono (by decide) (by decide)⟩
  show Q_ul Z a q h0 _ T2.heap _
  have Fz3 := (X1q.wr W2)
  have Fz4 := (C1q.other W2 (Or.inr (slot_ne (a0 := a0) (Or.inr (hw _ (List.mem_of_getElem? (i := 197) rfl))) (Or.inr (hw _ (List.mem_of_getElem? (i := 199) rfl))) (by decide) (t := (.object "java/util/Collection")) (t' := (.object "java/util/List")) (by decide) (by decide))))
  rw [show T2.heap = h2 from e2]
  exact ⟨rfl, N2, K2, Fz3, Fz4, Fw2⟩
theorem own_pn10 : plainName "java/util/Collections$UnmodifiableRandomAccessList" = true := by first | (simp [plainName, overriddenIn]; done) | decide +kernel
theorem own_ef_ur (m : MethodId) (a : Addr) (q : Addr) : entryFrame m #[(.ref a), (.ref q)] 2 = mkF m 0 #[.val (.ref a), .val (.ref q)] [] := by first | (simp [entryFrame, mkF, argsToLocals, Value.category]; done) | rfl
theorem own_d_jdk_121_method_1_0 : decode jdk_121_method_1_code 0 = .ok (.aload_n 0, 1) := by decide +kernel
theorem own_d_jdk_121_method_1_1 : decode jdk_121_method_1_code 1 = .ok (.aload_n 1, 1) := by decide +kernel
theorem own_d_jdk_121_method_1_2 : decode jdk_121_method_1_code 2 = .ok (.invokespecial 1, 3) := by decide +kernel
theorem own_pd6 : parseMethodDescriptor "(Ljava/util/List;)V" = some ⟨[(.object "java/util/List")], none⟩ := by decide +kernel
theorem own_d_jdk_121_method_1_5 : decode jdk_121_method_1_code 5 = .ok (.return_, 1) := by decide +kernel
def Q_ur (Z : State) (a : Addr) (q : Addr) (h0 : Heap) (v_ : Option Value) (h : Heap) (L_ : List Loc) : Prop := v_ = none ∧ Fr Z.heap.size L_ ∧ (Keep h0 h [a] ∧ Exa Z h a "java/util/Collections$UnmodifiableRandomAccessList" ∧ Fld Z h a "java/util/Collections$UnmodifiableCollection" "c" "Ljava/util/Collection;" (.ref q) ∧ Fld Z h a "java/util/Collections$UnmodifiableList" "list" "Ljava/util/List;" (.ref q))
set_option maxRecDepth 65536 in
set_option maxHeartbeats 40000000 in
theorem rm_ur (l : Launch) (Z : State) (a0 : Array Value) (hw : ∀ d ∈ tables_1, d.before a0 Z = true) (ws : List Jvm.Cond) (a : Addr) (q : Addr) (h0 : Heap) (O : Ext Z.heap h0) (X : Exa Z h0 a "java/util/Collections$UnmodifiableRandomAccessList") (Fc : Fld Z h0 a "java/util/Collections$UnmodifiableCollection" "c" "Ljava/util/Collection;" .null) (Fl : Fld Z h0 a "java/util/Collections$UnmodifiableList" "list" "Ljava/util/List;" .null) (ga : Z.heap.size ≤ a) :
    MetFree l (⟨"java/util/Collections$UnmodifiableRandomAccessList", "<init>", "(Ljava/util/List;)V"⟩ : MethodName) (head1 (Jvm.Cond.code (⟨"java/util/Collections$UnmodifiableRandomAccessList", "<init>", "(Ljava/util/List;)V"⟩ : MethodName) jdk_121_method_1_code 2 none :: ws) ({ frames := 3, cells := 0, slots := 0, locals := 38 } : Room)) (fun a_ U_ => a_ = #[(.ref a), (.ref q)] ∧ Z.Warmed39 U_.vm ∧ U_.heap = h0) (fun _ _ _ _ _ => True) (fun _ U_ o_ U2_ => ∃ v_ L_, o_ = .returned v_ ∧ Q_ur Z a q h0 v_ U2_.heap L_ ∧ FrameEnd U_ o_ U2_ L_ ({ frames := 3, cells := 0, slots := 0, locals := 38 } : Room).cells ({ frames := 3, cells := 0, slots := 0, locals := 38 } : Room).slots) := by
  refine MetFree.of_bodySF (plainFor_of_name own_pn10) hisR ?_
  intro p e s m args below meth c s₁ Bd hml0 hP hK
  obtain ⟨rfl, hZ, hh⟩ := hP
  have hx := Bd.exec
  have hby := Bd.bytes
  have hml : c.maxLocals = 2 := hml0
  have hown : s.vm.findClass "java/util/Collections$UnmodifiableRandomAccessList" = some m.cls := findClass_of_methodNamed Bd.named
  have hnm := (name_of_methodNamed Bd.named Bd.method).1
  have X0 : Stand p l e ({ frames := 3, cells := 0, slots := 0, locals := 38 } : Room) s m #[(.ref a), (.ref q)] below meth c s₁ [] 0 0 := Stand.of_body Bd
  have e0 : s₁.heap = h0 := by rw [← hh, Bd.state]; rfl
  have N0 := Fr.nil Z.heap.size
  show own_G p e below (fun o_ s₂ => ∃ v_ L_, o_ = .returned v_ ∧ Q_ur Z a q h0 v_ s₂.heap L_ ∧ FrameEnd s o_ s₂ L_ ({ frames := 3, cells := 0, slots := 0, locals := 38 } : Room).cells ({ frames := 3, cells := 0, slots := 0, locals := 38 } : Room).slots) (s₁.setTop (entryFrame m #[(.ref a), (.ref q)] 2))
  refine own_go (s₁.setTop (mkF m 0 #[.val (.ref a), .val (.ref q)] [])) (fun t_ k_ => castTop (own_ef_ur m a q) k_) ?_
  refine own_go (s₁.setTop (mkF m 1 #[.val (.ref a), .val (.ref q)] [(.ref a)])) (fun t_ k_ => XS.aloadN X0.here hx rfl (hb hby own_d_jdk_121_method_1_0) rfl rfl k_) ?_
  refine own_go (s₁.setTop (mkF m 2 #[.val (.ref a), .val (.ref q)] [(.ref q), (.ref a)])) (fun t_ k_ => XS.aloadN X0.here hx rfl (hb hby own_d_jdk_121_method_1_1) rfl rfl k_) ?_
  obtain ⟨_, _, ⟨T1, Lu1, ku1, nu1⟩, -, X1, ⟨Lc1, hQ1, lu1, yu1, zu1⟩, st1⟩ := X0.specialBack hx (y := (⟨"java/util/Collections$UnmodifiableList", "<init>", "(Ljava/util/List;)V"⟩ : MethodName)) rfl hown (mvT hZ (hw _ (List.mem_of_getElem? (i := 183) rfl))) (mvT hZ (hw _ (List.mem_of_getElem? (i := 184) rfl))) (mvT hZ (hw _ (List.mem_of_getElem? (i := 188) rfl))) (by decide) (backOf (W := 0) (rm_ul l Z a0 hw [] (a) (q) h0 O X Fc Fl ga) hZ (hw _ (List.mem_of_getElem? (i := 188) rfl)) (hw _ (List.mem_of_getElem? (i := 187) rfl)) (by decide) (by decide)) (g := (mkF m 2 #[.val (.ref a), .val (.ref q)] [(.ref q), (.ref a)])) rfl (by rw [hml]; rfl) (Steps.refl _) (a := a) (argsL := [(.ref q)]) (rest := []) (lenOf own_pd6 rfl) rfl (by show 2 * 0 + _ ≤ _; exact Nat.le_of_eq rfl) (hb hby own_d_jdk_121_method_1_2) (fun _ _ => ⟨rfl, e0, (by decide : 0 + 0 ≤ _), (by decide : 0 + 0 ≤ _)⟩)
  dsimp only [Pt.U, Pt.locs, Pt.cells, Pt.slots] at X1 lu1 yu1 zu1 st1 hQ1
  subst lu1 yu1 zu1
  obtain ⟨rfl, N1q, K1q, X1q, C1q, L1q⟩ := hQ1
  have N1 := Fr.app N0 N1q
  have O1 := own_extK O K1q (allS ga all0)
  have KK1 : Keep h0 T1.heap [a] := (Keep.refl h0 [a]).trans K1q (allS (Or.inl (List.mem_of_getElem? (i := 0) rfl)) all0)
  refine own_go (T1.setTop (mkF m 5 #[.val (.ref a), .val (.ref q)] [])) (fun t_ k_ => st1.trans k_) ?_
  obtain ⟨fs, hr, hrun, hended, hW, hsame⟩ := X1.leave (v := none) (fun _ => rfl)
  refine ⟨_, _, X1.returnOut hx Bd.returns (hb hby own_d_jdk_121_method_1_5) hr, hrun, hended, _, _, rfl, ?_, ⟨_, rfl⟩, hW, hsame.mono (by decide) (by decide)⟩
  show Q_ur Z a q h0 _ T1.heap _
  rw [show T1.heap = T1.heap from rfl]
  exact ⟨rfl, N1, KK1, X1q, C1q, L1q⟩
theorem own_pn11 : plainName "java/util/Collections" = true := by first | (simp [plainName, overriddenIn]; done) | decide +kernel
theorem own_ef_um (m : MethodId) (a : Addr) : entryFrame m #[(.ref a)] 1 = mkF m 0 #[.val (.ref a)] [] := by first | (simp [entryFrame, mkF, argsToLocals, Value.category]; done) | rfl
theorem own_d_jdk_79_method_35_0 : decode jdk_79_method_35_code 0 = .ok (.aload_n 0, 1) := by decide +kernel
theorem own_d_jdk_79_method_35_1 : decode jdk_79_method_35_code 1 = .ok (.invokeinterface 211 1, 5) := by decide +kernel
theorem own_d_jdk_79_method_35_6 : decode jdk_79_method_35_code 6 = .ok (.ldc 212, 2) := by decide +kernel
theorem own_d_jdk_79_method_35_8 : decode jdk_79_method_35_code 8 = .ok (.if_acmp .eq 14, 3) := by decide +kernel
theorem own_d_jdk_79_method_35_22 : decode jdk_79_method_35_code 22 = .ok (.aload_n 0, 1) := by decide +kernel
theorem own_d_jdk_79_method_35_23 : decode jdk_79_method_35_code 23 = .ok (.areturn, 1) := by decide +kernel
theorem own_d_jdk_79_method_35_11 : decode jdk_79_method_35_code 11 = .ok (.aload_n 0, 1) := by decide +kernel
theorem own_d_jdk_79_method_35_12 : decode jdk_79_method_35_code 12 = .ok (.invokeinterface 214 1, 5) := by decide +kernel
theorem own_d_jdk_79_method_35_17 : decode jdk_79_method_35_code 17 = .ok (.ldc 215, 2) := by decide +kernel
theorem own_d_jdk_79_method_35_19 : decode jdk_79_method_35_code 19 = .ok (.if_acmp .ne 5, 3) := by decide +kernel
theorem own_d_jdk_79_method_35_24 : decode jdk_79_method_35_code 24 = .ok (.aload_n 0, 1) := by decide +kernel
theorem own_d_jdk_79_method_35_25 : decode jdk_79_method_35_code 25 = .ok (.instanceof 13, 3) := by decide +kernel
theorem own_d_jdk_79_method_35_28 : decode jdk_79_method_35_code 28 = .ok (.ifCond .eq 14, 3) := by decide +kernel
theorem own_d_jdk_79_method_35_31 : decode jdk_79_method_35_code 31 = .ok (.new 215, 3) := by decide +kernel
theorem own_d_jdk_79_method_35_34 : decode jdk_79_method_35_code 34 = .ok (.dup, 1) := by decide +kernel
theorem own_d_jdk_79_method_35_35 : decode jdk_79_method_35_code 35 = .ok (.aload_n 0, 1) := by decide +kernel
theorem own_d_jdk_79_method_35_36 : decode jdk_79_method_35_code 36 = .ok (.invokespecial 217, 3) := by decide +kernel
theorem own_d_jdk_79_method_35_39 : decode jdk_79_method_35_code 39 = .ok (.goto 11, 3) := by decide +kernel
theorem own_d_jdk_79_method_35_50 : decode jdk_79_method_35_code 50 = .ok (.areturn, 1) := by decide +kernel
def Q_um (Z : State) (a : Addr) (cs0 : Int32) (a_EM : Addr) (a_DF : Addr) (m_A : Addr) (m_L : Addr) (m_R : Addr) (h0 : Heap) (v_ : Option Value) (h : Heap) (L_ : List Loc) : Prop := ∃ (r : Addr), v_ = some (.ref r) ∧ Fr Z.heap.size L_ ∧ (Keep h0 h [])
set_option maxRecDepth 65536 in
set_option maxHeartbeats 40000000 in
theorem rm_um (l : Launch) (Z : State) (a0 : Array Value) (hw : ∀ d ∈ tables_1, d.before a0 Z = true) (ws : List Jvm.Cond) (a : Addr) (cs0 : Int32) (a_EM : Addr) (a_DF : Addr) (m_A : Addr) (m_L : Addr) (m_R : Addr) (h0 : Heap) (O : Ext Z.heap h0) (w : own_W Z cs0 a_EM a_DF m_A m_L m_R) (X : Exa Z h0 a "java/util/ArrayList") :
    MetFree l (⟨"java/util/Collections", "unmodifiableList", "(Ljava/util/List;)Ljava/util/List;"⟩ : MethodName) (head1 (Jvm.Cond.code (⟨"java/util/Collections", "unmodifiableList", "(Ljava/util/List;)Ljava/util/List;"⟩ : MethodName) jdk_79_method_35_code 1 (some (.object "java/util/List")) :: ws) ({ frames := 4, cells := 1, slots := 2, locals := 52 } : Room)) (fun a_ U_ => a_ = #[(.ref a)] ∧ Z.Warmed39 U_.vm ∧ U_.heap = h0) (fun _ _ _ _ _ => True) (fun _ U_ o_ U2_ => ∃ v_ L_, o_ = .returned v_ ∧ Q_um Z a cs0 a_EM a_DF m_A m_L m_R h0 v_ U2_.heap L_ ∧ FrameEnd U_ o_ U2_ L_ ({ frames := 4, cells := 1, slots := 2, locals := 52 } : Room).cells ({ frames := 4, cells := 1, slots := 2, locals := 52 } : Room).slots) := by
  refine MetFree.of_bodySF (plainFor_of_name own_pn11) hisR ?_
  intro p e s m args below meth c s₁ Bd hml0 hP hK
  obtain ⟨rfl, hZ, hh⟩ := hP
  have hx := Bd.exec
  have hby := Bd.bytes
  have hml : c.maxLocals = 1 := hml0
  have hown : s.vm.findClass "java/util/Collections" = some m.cls := findClass_of_methodNamed Bd.named
  have hnm := (name_of_methodNamed Bd.named Bd.method).1
  have X0 : Stand p l e ({ frames := 4, cells := 1, slots := 2, locals := 52 } : Room) s m #[(.ref a)] below meth c s₁ [] 0 0 := Stand.of_body Bd
  have e0 : s₁.heap = h0 := by rw [← hh, Bd.state]; rfl
  have N0 := Fr.nil Z.heap.size
  show own_G p e below (fun o_ s₂ => ∃ v_ L_, o_ = .returned v_ ∧ Q_um Z a cs0 a_EM a_DF m_A m_L m_R h0 v_ s₂.heap L_ ∧ FrameEnd s o_ s₂ L_ ({ frames := 4, cells := 1, slots := 2, locals := 52 } : Room).cells ({ frames := 4, cells := 1, slots := 2, locals := 52 } : Room).slots) (s₁.setTop (entryFrame m #[(.ref a)] 1))
  refine own_go (s₁.setTop (mkF m 0 #[.val (.ref a)] [])) (fun t_ k_ => castTop (own_ef_um m a) k_) ?_
  have w' := w
  obtain ⟨S_CS, n_CS, S_EM, S_DF, M_A, M_L, M_R⟩ := w'
  refine own_go (s₁.setTop (mkF m 1 #[.val (.ref a)] [(.ref a)])) (fun t_ k_ => XS.aloadN X0.here hx rfl (hb hby own_d_jdk_79_method_35_0) rfl rfl k_) ?_
  obtain ⟨cq1, kq1, q1a, q1b, q1c⟩ := isOf hZ e0 X
  obtain ⟨v1, X1, st1⟩ := X0.getClassOfI hx (C := "java/util/ArrayList") (xi := (⟨"java/util/List", "getClass", "()Ljava/lang/Class;"⟩ : MethodName)) hown (mvT hZ (hw _ (List.mem_of_getElem? (i := 162) rfl))) (mvT hZ (hw _ (List.mem_of_getElem? (i := 163) rfl))) (Jvm.Free.ULB.iface_rides hZ.alike (hw _ (List.mem_of_getElem? (i := 164) rfl))) (mvT hZ (hw _ (List.mem_of_getElem? (i := 165) rfl))) (mvT hZ (hw _ (List.mem_of_getElem? (i := 166) rfl))) (mvT hZ (hw _ (List.mem_of_getElem? (i := 167) rfl))) (mvT hZ (hw _ (List.mem_of_getElem? (i := 168) rfl))) (mvT hZ (hw _ (List.mem_of_getElem? (i := 114) rfl))) (mvT hZ (hw _ (List.mem_of_getElem? (i := 169) rfl))) (by decide) (by decide) rfl rfl q1a q1b q1c (own_mirT hZ M_A q1a q1b) (g := (mkF m 1 #[.val (.ref a)] [(.ref a)])) rfl (by rw [hml]; rfl) rfl (hb hby own_d_jdk_79_method_35_1) (by decide) (by show 2 * 0 + 0 + (nativeFrameWords "java/lang/Object" "getClass" 1 + 11) ≤ _; decide)
  have e1 : (s₁.setVm v1).heap = h0 := e0
  refine own_go ((s₁.setVm v1).setTop (mkF m 6 #[.val (.ref a)] [(.ref m_A)])) (fun t_ k_ => st1 _ k_) ?_
  obtain ⟨v2, X2, st2⟩ := X1.ldcMirror hx (C := "java/util/Collections$UnmodifiableList") hown (mvT hZ (hw _ (List.mem_of_getElem? (i := 171) rfl))) (own_mirE hZ M_L) (g := (mkF m 6 #[.val (.ref a)] [(.ref m_A)])) rfl (hb hby own_d_jdk_79_method_35_6)
  have e2 : ((s₁.setVm v1).setVm v2).heap = h0 := e1
  refine own_go (((s₁.setVm v1).setVm v2).setTop (mkF m 8 #[.val (.ref a)] [(.ref m_L), (.ref m_A)])) (fun t_ k_ => st2 _ k_) ?_
  by_cases ha8_3 : m_A = m_L
  ·
    refine own_go (((s₁.setVm v1).setVm v2).setTop (mkF m 22 #[.val (.ref a)] [])) (fun t_ k_ => Jvm.RoadKit.acmp (g := (mkF m 8 #[.val (.ref a)] [(.ref m_L), (.ref m_A)])) X2 hx rfl rfl rfl (pc0 := 8) (pc' := 22) (same := true) rfl (hb hby own_d_jdk_79_method_35_8) rfl (decide_eq_true (congrArg Value.ref ha8_3)) (by decide) (by decide) k_) ?_
    refine own_go (((s₁.setVm v1).setVm v2).setTop (mkF m 23 #[.val (.ref a)] [(.ref a)])) (fun t_ k_ => XS.aloadN X2.here hx rfl (hb hby own_d_jdk_79_method_35_22) rfl rfl k_) ?_
    obtain ⟨fs, hr, hrun, hended, hW, hsame⟩ := X2.leave (v := some (.ref a)) (fun h => by rw [Bd.returns] at h; cases h)
    refine ⟨_, _, Jvm.RoadKit.retOut X2 hx Bd.returns rfl (Or.inr (Or.inr (Or.inr (Or.inr ⟨rfl, rfl, rfl⟩)))) (hb hby own_d_jdk_79_method_35_23) hr, hrun, hended, _, _, rfl, ?_, ⟨_, rfl⟩, hW, hsame.mono (by decide) (by decide)⟩
    show Q_um Z a cs0 a_EM a_DF m_A m_L m_R h0 _ ((s₁.setVm v1).setVm v2).heap _
    rw [show ((s₁.setVm v1).setVm v2).heap = h0 from e2]
    exact ⟨_, rfl, N0, (Keep.refl h0 [])⟩
  ·
    refine own_go (((s₁.setVm v1).setVm v2).setTop (mkF m 11 #[.val (.ref a)] [])) (fun t_ k_ => Jvm.RoadKit.acmp (g := (mkF m 8 #[.val (.ref a)] [(.ref m_L), (.ref m_A)])) X2 hx rfl rfl rfl (pc0 := 8) (pc' := 11) (same := false) rfl (hb hby own_d_jdk_79_method_35_8) rfl (decide_eq_false fun q => ha8_3 (Value.ref.inj q)) (by decide) (by decide) k_) ?_
    refine own_go (((s₁.setVm v1).setVm v2).setTop (mkF m 12 #[.val (.ref a)] [(.ref a)])) (fun t_ k_ => XS.aloadN X2.here hx rfl (hb hby own_d_jdk_79_method_35_11) rfl rfl k_) ?_
    obtain ⟨cq4, kq4, q4a, q4b, q4c⟩ := isOf hZ e2 X
    obtain ⟨v4, X4, st4⟩ := X2.getClassOfI hx (C := "java/util/ArrayList") (xi := (⟨"java/util/List", "getClass", "()Ljava/lang/Class;"⟩ : MethodName)) hown (mvT hZ (hw _ (List.mem_of_getElem? (i := 173) rfl))) (mvT hZ (hw _ (List.mem_of_getElem? (i := 163) rfl))) (Jvm.Free.ULB.iface_rides hZ.alike (hw _ (List.mem_of_getElem? (i := 164) rfl))) (mvT hZ (hw _ (List.mem_of_getElem? (i := 165) rfl))) (mvT hZ (hw _ (List.mem_of_getElem? (i := 166) rfl))) (mvT hZ (hw _ (List.mem_of_getElem? (i := 167) rfl))) (mvT hZ (hw _ (List.mem_of_getElem? (i := 168) rfl))) (mvT hZ (hw _ (List.mem_of_getElem? (i := 114) rfl))) (mvT hZ (hw _ (List.mem_of_getElem? (i := 169) rfl))) (by decide) (by decide) rfl rfl q4a q4b q4c (own_mirT hZ M_A q4a q4b) (g := (mkF m 12 #[.val (.ref a)] [(.ref a)])) rfl (by rw [hml]; rfl) rfl (hb hby own_d_jdk_79_method_35_12) (by decide) (by show 2 * 0 + 0 + (nativeFrameWords "java/lang/Object" "getClass" 1 + 11) ≤ _; decide)
    have e4 : (((s₁.setVm v1).setVm v2).setVm v4).heap = h0 := e2
    refine own_go ((((s₁.setVm v1).setVm v2).setVm v4).setTop (mkF m 17 #[.val (.ref a)] [(.ref m_A)])) (fun t_ k_ => st4 _ k_) ?_
    obtain ⟨v5, X5, st5⟩ := X4.ldcMirror hx (C := "java/util/Collections$UnmodifiableRandomAccessList") hown (mvT hZ (hw _ (List.mem_of_getElem? (i := 174) rfl))) (own_mirE hZ M_R) (g := (mkF m 17 #[.val (.ref a)] [(.ref m_A)])) rfl (hb hby own_d_jdk_79_method_35_17)
    have e5 : ((((s₁.setVm v1).setVm v2).setVm v4).setVm v5).heap = h0 := e4
    refine own_go (((((s₁.setVm v1).setVm v2).setVm v4).setVm v5).setTop (mkF m 19 #[.val (.ref a)] [(.ref m_R), (.ref m_A)])) (fun t_ k_ => st5 _ k_) ?_
    by_cases ha19_6 : m_A = m_R
    ·
      refine own_go (((((s₁.setVm v1).setVm v2).setVm v4).setVm v5).setTop (mkF m 22 #[.val (.ref a)] [])) (fun t_ k_ => Jvm.RoadKit.acmp (g := (mkF m 19 #[.val (.ref a)] [(.ref m_R), (.ref m_A)])) X5 hx rfl rfl rfl (pc0 := 19) (pc' := 22) (same := true) rfl (hb hby own_d_jdk_79_method_35_19) rfl (decide_eq_true (congrArg Value.ref ha19_6)) (by decide) (by decide) k_) ?_
      refine own_go (((((s₁.setVm v1).setVm v2).setVm v4).setVm v5).setTop (mkF m 23 #[.val (.ref a)] [(.ref a)])) (fun t_ k_ => XS.aloadN X5.here hx rfl (hb hby own_d_jdk_79_method_35_22) rfl rfl k_) ?_
      obtain ⟨fs, hr, hrun, hended, hW, hsame⟩ := X5.leave (v := some (.ref a)) (fun h => by rw [Bd.returns] at h; cases h)
      refine ⟨_, _, Jvm.RoadKit.retOut X5 hx Bd.returns rfl (Or.inr (Or.inr (Or.inr (Or.inr ⟨rfl, rfl, rfl⟩)))) (hb hby own_d_jdk_79_method_35_23) hr, hrun, hended, _, _, rfl, ?_, ⟨_, rfl⟩, hW, hsame.mono (by decide) (by decide)⟩
      show Q_um Z a cs0 a_EM a_DF m_A m_L m_R h0 _ ((((s₁.setVm v1).setVm v2).setVm v4).setVm v5).heap _
      rw [show ((((s₁.setVm v1).setVm v2).setVm v4).setVm v5).heap = h0 from e5]
      exact ⟨_, rfl, N0, (Keep.refl h0 [])⟩
    ·
      refine own_go (((((s₁.setVm v1).setVm v2).setVm v4).setVm v5).setTop (mkF m 24 #[.val (.ref a)] [])) (fun t_ k_ => Jvm.RoadKit.acmp (g := (mkF m 19 #[.val (.ref a)] [(.ref m_R), (.ref m_A)])) X5 hx rfl rfl rfl (pc0 := 19) (pc' := 24) (same := false) rfl (hb hby own_d_jdk_79_method_35_19) rfl (decide_eq_false fun q => ha19_6 (Value.ref.inj q)) (by decide) (by decide) k_) ?_
      refine own_go (((((s₁.setVm v1).setVm v2).setVm v4).setVm v5).setTop (mkF m 25 #[.val (.ref a)] [(.ref a)])) (fun t_ k_ => XS.aloadN X5.here hx rfl (hb hby own_d_jdk_79_method_35_24) rfl rfl k_) ?_
      obtain ⟨T7, X7, e7, st7⟩ := instY X5 hx hZ hown (hw _ (List.mem_of_getElem? (i := 176) rfl)) e5 (Ins.of_exa X (hw _ (List.mem_of_getElem? (i := 177) rfl))) (g := (mkF m 25 #[.val (.ref a)] [(.ref a)])) rfl rfl (hb hby own_d_jdk_79_method_35_25)
      refine own_go (T7.setTop (mkF m 28 #[.val (.ref a)] [(.int (1 : Int32))])) (fun t_ k_ => st7 _ k_) ?_
      refine own_go (T7.setTop (mkF m 31 #[.val (.ref a)] [])) (fun t_ k_ => XS.ifNo X7.here hx rfl (hb hby own_d_jdk_79_method_35_28) rfl ((if0 _ _).trans (feq (by decide : ¬ ((1 : Int32) = (0 : Int32)))).1) k_) ?_
      obtain ⟨T8, h8, X8, e8, E8, A8, D8, U8, st8⟩ := newO X7 hx hZ hown (hw _ (List.mem_of_getElem? (i := 174) rfl)) (hw _ (List.mem_of_getElem? (i := 178) rfl)) (hw _ (List.mem_of_getElem? (i := 179) rfl)) e7 (g := (mkF m 31 #[.val (.ref a)] [])) rfl (hb hby own_d_jdk_79_method_35_31) (by decide) (by decide)
      obtain ⟨b8, g8⟩ : ∃ z, z = h0.size := ⟨_, rfl⟩
      rw [← g8] at A8 D8 U8 st8
      have ge_b8 : Z.heap.size ≤ b8 := Nat.le_trans O.1 (Nat.le_of_eq g8.symm)
      have sz_b8 : h0.size ≤ b8 := Nat.le_trans (Keep.refl h0 []).1 (Nat.le_of_eq g8.symm)
      have K8 : Keep h0 h8 [] := (Keep.refl h0 []).ext E8
      have O8 := own_ext O E8
      have Fc_8 : Fld Z h8 b8 "java/util/Collections$UnmodifiableCollection" "c" "Ljava/util/Collection;" .null := D8 (Or.inr (hw _ (List.mem_of_getElem? (i := 197) rfl))) (ty := (.object "java/util/Collection")) (by decide)
      have Flist_8 : Fld Z h8 b8 "java/util/Collections$UnmodifiableList" "list" "Ljava/util/List;" .null := D8 (Or.inr (hw _ (List.mem_of_getElem? (i := 199) rfl))) (ty := (.object "java/util/List")) (by decide)
      refine own_go (T8.setTop (mkF m 34 #[.val (.ref a)] [(.ref b8)])) (fun t_ k_ => st8 _ k_) ?_
      refine own_go (T8.setTop (mkF m 35 #[.val (.ref a)] [(.ref b8), (.ref b8)])) (fun t_ k_ => XS.dup X8.here hx rfl (hb hby own_d_jdk_79_method_35_34) rfl rfl k_) ?_
      refine own_go (T8.setTop (mkF m 36 #[.val (.ref a)] [(.ref a), (.ref b8), (.ref b8)])) (fun t_ k_ => XS.aloadN X8.here hx rfl (hb hby own_d_jdk_79_method_35_35) rfl rfl k_) ?_
      obtain ⟨_, _, ⟨T9, Lu9, ku9, nu9⟩, -, X9, ⟨Lc9, hQ9, lu9, yu9, zu9⟩, st9⟩ := X8.specialBack hx (y := (⟨"java/util/Collections$UnmodifiableRandomAccessList", "<init>", "(Ljava/util/List;)V"⟩ : MethodName)) rfl hown (mvT hZ (hw _ (List.mem_of_getElem? (i := 180) rfl))) (mvT hZ (hw _ (List.mem_of_getElem? (i := 181) rfl))) (mvT hZ (hw _ (List.mem_of_getElem? (i := 182) rfl))) (by decide) (backOf (W := 1) (rm_ur l Z a0 hw [] (b8) (a) h8 O8 A8 Fc_8 Flist_8 ge_b8) hZ (hw _ (List.mem_of_getElem? (i := 182) rfl)) (hw _ (List.mem_of_getElem? (i := 179) rfl)) (by decide) (by decide)) (g := (mkF m 36 #[.val (.ref a)] [(.ref a), (.ref b8), (.ref b8)])) rfl (by rw [hml]; rfl) (Steps.refl _) (a := b8) (argsL := [(.ref a)]) (rest := [(.ref b8)]) (lenOf own_pd6 rfl) rfl (by show 2 * 0 + _ ≤ _; exact Nat.le_of_eq rfl) (hb hby own_d_jdk_79_method_35_36) (fun _ _ => ⟨rfl, e8, (by decide : 1 + 0 ≤ _), (by decide : 2 + 0 ≤ _)⟩)
      dsimp only [Pt.U, Pt.locs, Pt.cells, Pt.slots] at X9 lu9 yu9 zu9 st9 hQ9
      subst lu9 yu9 zu9
      obtain ⟨rfl, N9q, K9q, X9q, C9q, L9q⟩ := hQ9
      have N9 := Fr.app N0 N9q
      have O9 := own_extK O8 K9q (allS ge_b8 all0)
      have KK9 : Keep h0 T9.heap [] := K8.trans K9q (allS (Or.inr sz_b8) all0)
      refine own_go (T9.setTop (mkF m 39 #[.val (.ref a)] [(.ref b8)])) (fun t_ k_ => st9.trans k_) ?_
      refine own_go (T9.setTop (mkF m 50 #[.val (.ref a)] [(.ref b8)])) (fun t_ k_ => XS.goto X9.here hx rfl (pc0 := 39) (pc' := 50) rfl (hb hby own_d_jdk_79_method_35_39) (by decide) (by decide) k_) ?_
      obtain ⟨fs, hr, hrun, hended, hW, hsame⟩ := X9.leave (v := some (.ref b8)) (fun h => by rw [Bd.returns] at h; cases h)
      refine ⟨_, _, Jvm.RoadKit.retOut X9 hx Bd.returns rfl (Or.inr (Or.inr (Or.inr (Or.inr ⟨rfl, rfl, rfl⟩)))) (hb hby own_d_jdk_79_method_35_50) hr, hrun, hended, _, _, rfl, ?_, ⟨_, rfl⟩, hW, hsame.mono (by decide) (by decide)⟩
      show Q_um Z a cs0 a_EM a_DF m_A m_L m_R h0 _ T9.heap _
      rw [show T9.heap = T9.heap from rfl]
      exact ⟨_, rfl, N9, KK9⟩
theorem own_ef_ls (m : MethodId) (a : Addr) (q : Addr) : entryFrame m #[(.ref a), (.ref q)] 5 = mkF m 0 #[.val (.ref a), .val (.ref q), .unset, .unset, .unset] [] := by first | (simp [entryFrame, mkF, argsToLocals, Value.category]; done) | rfl
theorem own_d_prog_44_method_8_0 : decode prog_44_method_8_code 0 = .ok (.aload_n 0, 1) := by decide +kernel
theorem own_d_prog_44_method_8_1 : decode prog_44_method_8_code 1 = .ok (.aload_n 1, 1) := by decide +kernel
theorem own_d_prog_44_method_8_2 : decode prog_44_method_8_code 2 = .ok (.invokestatic 16, 3) := by decide +kernel
theorem own_d_prog_44_method_8_5 : decode prog_44_method_8_code 5 = .ok (.pop, 1) := by decide +kernel
theorem own_d_prog_44_method_8_6 : decode prog_44_method_8_code 6 = .ok (.new 67, 3) := by decide +kernel
theorem own_d_prog_44_method_8_9 : decode prog_44_method_8_code 9 = .ok (.dup, 1) := by decide +kernel
theorem own_d_prog_44_method_8_10 : decode prog_44_method_8_code 10 = .ok (.aload_n 0, 1) := by decide +kernel
theorem own_d_prog_44_method_8_11 : decode prog_44_method_8_code 11 = .ok (.invokeinterface 48 1, 5) := by decide +kernel
theorem own_pd7 : parseMethodDescriptor "()I" = some ⟨[], some .int⟩ := by decide +kernel
theorem own_d_prog_44_method_8_16 : decode prog_44_method_8_code 16 = .ok (.invokespecial 69, 3) := by decide +kernel
theorem own_pd8 : parseMethodDescriptor "(I)V" = some ⟨[.int], none⟩ := by decide +kernel
theorem own_d_prog_44_method_8_19 : decode prog_44_method_8_code 19 = .ok (.astore_n 2, 1) := by decide +kernel
theorem own_d_prog_44_method_8_20 : decode prog_44_method_8_code 20 = .ok (.aload_n 0, 1) := by decide +kernel
theorem own_d_prog_44_method_8_21 : decode prog_44_method_8_code 21 = .ok (.invokeinterface 72 1, 5) := by decide +kernel
theorem own_pd9 : parseMethodDescriptor "()Ljava/util/Iterator;" = some ⟨[], some (.object "java/util/Iterator")⟩ := by decide +kernel
theorem own_d_prog_44_method_8_26 : decode prog_44_method_8_code 26 = .ok (.astore_n 3, 1) := by decide +kernel
theorem own_d_prog_44_method_8_27 : decode prog_44_method_8_code 27 = .ok (.aload_n 3, 1) := by decide +kernel
theorem own_d_prog_44_method_8_28 : decode prog_44_method_8_code 28 = .ok (.invokeinterface 76 1, 5) := by decide +kernel
theorem own_d_prog_44_method_8_33 : decode prog_44_method_8_code 33 = .ok (.ifCond .eq 40, 3) := by decide +kernel
theorem own_d_prog_44_method_8_73 : decode prog_44_method_8_code 73 = .ok (.aload_n 2, 1) := by decide +kernel
theorem own_d_prog_44_method_8_74 : decode prog_44_method_8_code 74 = .ok (.invokestatic 90, 3) := by decide +kernel
theorem own_pd10 : parseMethodDescriptor "(Ljava/util/List;)Ljava/util/List;" = some ⟨[(.object "java/util/List")], some (.object "java/util/List")⟩ := by decide +kernel
theorem own_d_prog_44_method_8_77 : decode prog_44_method_8_code 77 = .ok (.areturn, 1) := by decide +kernel
def Q_ls (Z : State) (a : Addr) (q : Addr) (cs0 : Int32) (a_EM : Addr) (a_DF : Addr) (m_A : Addr) (m_L : Addr) (m_R : Addr) (h0 : Heap) (v_ : Option Value) (h : Heap) (L_ : List Loc) : Prop := ∃ (r : Addr), v_ = some (.ref r) ∧ Fr Z.heap.size L_ ∧ (Keep h0 h [])
set_option maxRecDepth 65536 in
set_option maxHeartbeats 40000000 in
theorem rm_ls (l : Launch) (Z : State) (a0 : Array Value) (hw : ∀ d ∈ tables_1, d.before a0 Z = true) (ws : List Jvm.Cond) (a : Addr) (q : Addr) (cs0 : Int32) (a_EM : Addr) (a_DF : Addr) (m_A : Addr) (m_L : Addr) (m_R : Addr) (h0 : Heap) (O : Ext Z.heap h0) (w : own_W Z cs0 a_EM a_DF m_A m_L m_R) (X : Exa Z h0 a "java/util/ArrayList") (Fm : Fld Z h0 a "java/util/AbstractList" "modCount" "I" (.int 0)) (Fs : Fld Z h0 a "java/util/ArrayList" "size" "I" (.int 0)) :
    MetFree l (⟨"com/example/trailcaster/trailcaster/model/Checks", "list", "(Ljava/util/List;Ljava/lang/String;)Ljava/util/List;"⟩ : MethodName) (head1 (Jvm.Cond.code (⟨"com/example/trailcaster/trailcaster/model/Checks", "list", "(Ljava/util/List;Ljava/lang/String;)Ljava/util/List;"⟩ : MethodName) prog_44_method_8_code 5 (some (.object "java/util/List")) :: ws) ({ frames := 5, cells := 3, slots := 9, locals := 64 } : Room)) (fun a_ U_ => a_ = #[(.ref a), (.ref q)] ∧ Z.Warmed39 U_.vm ∧ U_.heap = h0) (fun _ _ _ _ _ => True) (fun _ U_ o_ U2_ => ∃ v_ L_, o_ = .returned v_ ∧ Q_ls Z a q cs0 a_EM a_DF m_A m_L m_R h0 v_ U2_.heap L_ ∧ FrameEnd U_ o_ U2_ L_ ({ frames := 5, cells := 3, slots := 9, locals := 64 } : Room).cells ({ frames := 5, cells := 3, slots := 9, locals := 64 } : Room).slots) := by
  refine MetFree.of_bodySF (plainFor_of_name own_pn1) hisR ?_
  intro p e s m args below meth c s₁ Bd hml0 hP hK
  obtain ⟨rfl, hZ, hh⟩ := hP
  have hx := Bd.exec
  have hby := Bd.bytes
  have hml : c.maxLocals = 5 := hml0
  have hown : s.vm.findClass "com/example/trailcaster/trailcaster/model/Checks" = some m.cls := findClass_of_methodNamed Bd.named
  have hnm := (name_of_methodNamed Bd.named Bd.method).1
  have X0 : Stand p l e ({ frames := 5, cells := 3, slots := 9, locals := 64 } : Room) s m #[(.ref a), (.ref q)] below meth c s₁ [] 0 0 := Stand.of_body Bd
  have e0 : s₁.heap = h0 := by rw [← hh, Bd.state]; rfl
  have N0 := Fr.nil Z.heap.size
  show own_G p e below (fun o_ s₂ => ∃ v_ L_, o_ = .returned v_ ∧ Q_ls Z a q cs0 a_EM a_DF m_A m_L m_R h0 v_ s₂.heap L_ ∧ FrameEnd s o_ s₂ L_ ({ frames := 5, cells := 3, slots := 9, locals := 64 } : Room).cells ({ frames := 5, cells := 3, slots := 9, locals := 64 } : Room).slots) (s₁.setTop (entryFrame m #[(.ref a), (.ref q)] 5))
  refine own_go (s₁.setTop (mkF m 0 #[.val (.ref a), .val (.ref q), .unset, .unset, .unset] [])) (fun t_ k_ => castTop (own_ef_ls m a q) k_) ?_
  have w' := w
  obtain ⟨S_CS, n_CS, S_EM, S_DF, M_A, M_L, M_R⟩ := w'
  refine own_go (s₁.setTop (mkF m 1 #[.val (.ref a), .val (.ref q), .unset, .unset, .unset] [(.ref a)])) (fun t_ k_ => XS.aloadN X0.here hx rfl (hb hby own_d_prog_44_method_8_0) rfl rfl k_) ?_
  refine own_go (s₁.setTop (mkF m 2 #[.val (.ref a), .val (.ref q), .unset, .unset, .unset] [(.ref q), (.ref a)])) (fun t_ k_ => XS.aloadN X0.here hx rfl (hb hby own_d_prog_44_method_8_1) rfl rfl k_) ?_
  obtain ⟨_, _, ⟨T1, Lu1, ku1, nu1⟩, -, X1, ⟨Lc1, hQ1, lu1, yu1, zu1⟩, st1⟩ := Jvm.LawKit.callS X0 hx (y := (⟨"com/example/trailcaster/trailcaster/model/Checks", "required", "(Ljava/lang/Object;Ljava/lang/String;)Ljava/lang/Object;"⟩ : MethodName)) hown (mvT hZ (hw _ (List.mem_of_getElem? (i := 29) rfl))) (mvT hZ (hw _ (List.mem_of_getElem? (i := 30) rfl))) (mvT hZ (hw _ (List.mem_of_getElem? (i := 27) rfl))) (mvT hZ (hw _ (List.mem_of_getElem? (i := 31) rfl))) (by decide) (backOf (W := 0) (rm_rq l Z a0 hw [] (a) (q) h0 O ) hZ (hw _ (List.mem_of_getElem? (i := 31) rfl)) (hw _ (List.mem_of_getElem? (i := 27) rfl)) (by decide) (by decide)) (g := (mkF m 2 #[.val (.ref a), .val (.ref q), .unset, .unset, .unset] [(.ref q), (.ref a)])) rfl (by rw [hml]; rfl) (argsL := [(.ref a), (.ref q)]) (rest := []) (lenOf own_pd0 rfl) rfl (by show 2 * 0 + _ ≤ _; exact Nat.le_of_eq rfl) (hb hby own_d_prog_44_method_8_2) (fun _ _ => ⟨rfl, e0, (by decide : 0 + 0 ≤ _), (by decide : 0 + 0 ≤ _)⟩)
  dsimp only [Pt.U, Pt.locs, Pt.cells, Pt.slots] at X1 lu1 yu1 zu1 st1 hQ1
  subst lu1 yu1 zu1
  obtain ⟨rfl, N1q, e1⟩ := hQ1
  have N1 := Fr.app N0 N1q
  refine own_go (T1.setTop (mkF m 5 #[.val (.ref a), .val (.ref q), .unset, .unset, .unset] [(.ref a)])) (fun t_ k_ => st1 _ k_) ?_
  refine own_go (T1.setTop (mkF m 6 #[.val (.ref a), .val (.ref q), .unset, .unset, .unset] [])) (fun t_ k_ => XS.pop X1.here hx rfl (hb hby own_d_prog_44_method_8_5) rfl rfl k_) ?_
  obtain ⟨T2, h2, X2, e2, E2, A2, D2, U2, st2⟩ := newO X1 hx hZ hown (hw _ (List.mem_of_getElem? (i := 106) rfl)) (hw _ (List.mem_of_getElem? (i := 47) rfl)) (hw _ (List.mem_of_getElem? (i := 48) rfl)) e1 (g := (mkF m 6 #[.val (.ref a), .val (.ref q), .unset, .unset, .unset] [])) rfl (hb hby own_d_prog_44_method_8_6) (by decide) (by decide)
  obtain ⟨b2, g2⟩ : ∃ z, z = h0.size := ⟨_, rfl⟩
  rw [← g2] at A2 D2 U2 st2
  have ge_b2 : Z.heap.size ≤ b2 := Nat.le_trans O.1 (Nat.le_of_eq g2.symm)
  have sz_b2 : h0.size ≤ b2 := Nat.le_trans (Keep.refl h0 []).1 (Nat.le_of_eq g2.symm)
  have K2 : Keep h0 h2 [] := (Keep.refl h0 []).ext E2
  have O2 := own_ext O E2
  have FmodCount_2 : Fld Z h2 b2 "java/util/AbstractList" "modCount" "I" (.int (0 : Int32)) := D2 (Or.inl (hw _ (List.mem_of_getElem? (i := 66) rfl))) (ty := .int) (by decide)
  have FelementData_2 : Fld Z h2 b2 "java/util/ArrayList" "elementData" "[Ljava/lang/Object;" .null := D2 (Or.inl (hw _ (List.mem_of_getElem? (i := 69) rfl))) (ty := (.array (.object "java/lang/Object"))) (by decide)
  have Fsize_2 : Fld Z h2 b2 "java/util/ArrayList" "size" "I" (.int (0 : Int32)) := D2 (Or.inl (hw _ (List.mem_of_getElem? (i := 117) rfl))) (ty := .int) (by decide)
  refine own_go (T2.setTop (mkF m 9 #[.val (.ref a), .val (.ref q), .unset, .unset, .unset] [(.ref b2)])) (fun t_ k_ => st2 _ k_) ?_
  refine own_go (T2.setTop (mkF m 10 #[.val (.ref a), .val (.ref q), .unset, .unset, .unset] [(.ref b2), (.ref b2)])) (fun t_ k_ => XS.dup X2.here hx rfl (hb hby own_d_prog_44_method_8_9) rfl rfl k_) ?_
  refine own_go (T2.setTop (mkF m 11 #[.val (.ref a), .val (.ref q), .unset, .unset, .unset] [(.ref a), (.ref b2), (.ref b2)])) (fun t_ k_ => XS.aloadN X2.here hx rfl (hb hby own_d_prog_44_method_8_10) rfl rfl k_) ?_
  have Fz3 := (Fs.ext E2)
  have Fz5 := (X.ext E2)
  obtain ⟨cq4, kq4, q4a, q4b, q4c⟩ := isOf hZ e2 Fz5
  obtain ⟨_, _, ⟨T4, Lu4, ku4, nu4⟩, -, X4, ⟨Lc4, hQ4, lu4, yu4, zu4⟩, st4⟩ := X2.interfaceBack hx (xi := (⟨"java/util/List", "size", "()I"⟩ : MethodName)) (y := (⟨"java/util/ArrayList", "size", "()I"⟩ : MethodName)) hown (mvT hZ (hw _ (List.mem_of_getElem? (i := 107) rfl))) (mvT hZ (hw _ (List.mem_of_getElem? (i := 108) rfl))) (mvT hZ (hw _ (List.mem_of_getElem? (i := 109) rfl))) (mvT hZ (hw _ (List.mem_of_getElem? (i := 110) rfl))) (mvT hZ (hw _ (List.mem_of_getElem? (i := 111) rfl))) (mvT hZ (hw _ (List.mem_of_getElem? (i := 112) rfl))) (mvT hZ (hw _ (List.mem_of_getElem? (i := 113) rfl))) (mvT hZ (hw _ (List.mem_of_getElem? (i := 114) rfl))) (by decide) (backOf (W := 2) (rm_sz l Z a0 hw [] (a) h2 O2 Fz3) hZ (hw _ (List.mem_of_getElem? (i := 115) rfl)) (hw _ (List.mem_of_getElem? (i := 48) rfl)) (by decide) (by decide)) q4a q4b q4c (g := (mkF m 11 #[.val (.ref a), .val (.ref q), .unset, .unset, .unset] [(.ref a), (.ref b2), (.ref b2)])) rfl (by rw [hml]; rfl) (Steps.refl _) (argsL := []) (rest := [(.ref b2), (.ref b2)]) (lenOf own_pd7 rfl) rfl (by show 2 * 0 + _ ≤ _; exact Nat.le_of_eq rfl) (hb hby own_d_prog_44_method_8_11) (fun _ _ => ⟨rfl, e2, (by decide : 1 + 0 ≤ _), (by decide : 3 + 0 ≤ _)⟩)
  dsimp only [Pt.U, Pt.locs, Pt.cells, Pt.slots] at X4 lu4 yu4 zu4 st4 hQ4
  subst lu4 yu4 zu4
  obtain ⟨rfl, N4q, e4⟩ := hQ4
  have N4 := Fr.app N1 N4q
  refine own_go (T4.setTop (mkF m 16 #[.val (.ref a), .val (.ref q), .unset, .unset, .unset] [(.int (0 : Int32)), (.ref b2), (.ref b2)])) (fun t_ k_ => st4.trans k_) ?_
  obtain ⟨_, _, ⟨T6, Lu6, ku6, nu6⟩, -, X6, ⟨Lc6, hQ6, lu6, yu6, zu6⟩, st6⟩ := X4.specialBack hx (y := (⟨"java/util/ArrayList", "<init>", "(I)V"⟩ : MethodName)) rfl hown (mvT hZ (hw _ (List.mem_of_getElem? (i := 118) rfl))) (mvT hZ (hw _ (List.mem_of_getElem? (i := 119) rfl))) (mvT hZ (hw _ (List.mem_of_getElem? (i := 120) rfl))) (by decide) (backOf (W := 1) (rm_ai1 l Z a0 hw [] (b2) (cs0) (a_EM) (a_DF) (m_A) (m_L) (m_R) h2 O2 w A2 FmodCount_2 Fsize_2 FelementData_2 ge_b2) hZ (hw _ (List.mem_of_getElem? (i := 120) rfl)) (hw _ (List.mem_of_getElem? (i := 48) rfl)) (by decide) (by decide)) (g := (mkF m 16 #[.val (.ref a), .val (.ref q), .unset, .unset, .unset] [(.int (0 : Int32)), (.ref b2), (.ref b2)])) rfl (by rw [hml]; rfl) (Steps.refl _) (a := b2) (argsL := [(.int (0 : Int32))]) (rest := [(.ref b2)]) (lenOf own_pd8 rfl) rfl (by show 2 * 0 + _ ≤ _; exact Nat.le_of_eq rfl) (hb hby own_d_prog_44_method_8_16) (fun _ _ => ⟨rfl, e4, (by decide : 1 + 0 ≤ _), (by decide : 3 + 0 ≤ _)⟩)
  dsimp only [Pt.U, Pt.locs, Pt.cells, Pt.slots] at X6 lu6 yu6 zu6 st6 hQ6
  subst lu6 yu6 zu6
  obtain ⟨rfl, N6q, K6q, X6q, M6q, S6q, D6q⟩ := hQ6
  have N6 := Fr.app N4 N6q
  have O6 := own_extK O2 K6q (allS ge_b2 all0)
  have KK6 : Keep h0 T6.heap [] := K2.trans K6q (allS (Or.inr sz_b2) all0)
  refine own_go (T6.setTop (mkF m 19 #[.val (.ref a), .val (.ref q), .unset, .unset, .unset] [(.ref b2)])) (fun t_ k_ => st6.trans k_) ?_
  refine own_go (T6.setTop (mkF m 20 #[.val (.ref a), .val (.ref q), .val (.ref b2), .unset, .unset] [])) (fun t_ k_ => XS.astoreN X6.here hx rfl (hb hby own_d_prog_44_method_8_19) rfl rfl (l' := #[.val (.ref a), .val (.ref q), .val (.ref b2), .unset, .unset]) rfl k_) ?_
  refine own_go (T6.setTop (mkF m 21 #[.val (.ref a), .val (.ref q), .val (.ref b2), .unset, .unset] [(.ref a)])) (fun t_ k_ => XS.aloadN X6.here hx rfl (hb hby own_d_prog_44_method_8_20) rfl rfl k_) ?_
  have Fz7 := (Fz5.keep K6q)
  have Nz8 : a ≠ b2 := (Nat.ne_of_lt (Nat.lt_of_lt_of_le X.lt (Nat.le_of_eq g2.symm)))
  have Fz9 := ((Fm.ext E2).keep K6q (ninS Nz8 nin0))
  obtain ⟨cq10, kq10, q10a, q10b, q10c⟩ := isOf hZ rfl Fz7
  obtain ⟨_, _, ⟨T10, Lu10, ku10, nu10⟩, -, X10, ⟨Lc10, hQ10, lu10, yu10, zu10⟩, st10⟩ := X6.interfaceBack hx (xi := (⟨"java/util/List", "iterator", "()Ljava/util/Iterator;"⟩ : MethodName)) (y := (⟨"java/util/ArrayList", "iterator", "()Ljava/util/Iterator;"⟩ : MethodName)) hown (mvT hZ (hw _ (List.mem_of_getElem? (i := 122) rfl))) (mvT hZ (hw _ (List.mem_of_getElem? (i := 123) rfl))) (mvT hZ (hw _ (List.mem_of_getElem? (i := 124) rfl))) (mvT hZ (hw _ (List.mem_of_getElem? (i := 125) rfl))) (mvT hZ (hw _ (List.mem_of_getElem? (i := 126) rfl))) (mvT hZ (hw _ (List.mem_of_getElem? (i := 127) rfl))) (mvT hZ (hw _ (List.mem_of_getElem? (i := 128) rfl))) (mvT hZ (hw _ (List.mem_of_getElem? (i := 114) rfl))) (by decide) (backOf (W := 0) (rm_ir l Z a0 hw [] (a) T6.heap O6 Fz7 Fz9) hZ (hw _ (List.mem_of_getElem? (i := 129) rfl)) (hw _ (List.mem_of_getElem? (i := 48) rfl)) (by decide) (by decide)) q10a q10b q10c (g := (mkF m 21 #[.val (.ref a), .val (.ref q), .val (.ref b2), .unset, .unset] [(.ref a)])) rfl (by rw [hml]; rfl) (Steps.refl _) (argsL := []) (rest := []) (lenOf own_pd9 rfl) rfl (by show 2 * 0 + _ ≤ _; exact Nat.le_of_eq rfl) (hb hby own_d_prog_44_method_8_21) (fun _ _ => ⟨rfl, rfl, (by decide : 1 + 1 ≤ _), (by decide : 3 + 4 ≤ _)⟩)
  dsimp only [Pt.U, Pt.locs, Pt.cells, Pt.slots] at X10 lu10 yu10 zu10 st10 hQ10
  subst lu10 yu10 zu10
  obtain ⟨i10, rfl, N10q, K10q, X10q, T10q, C10q⟩ := hQ10
  have N10 := Fr.app N6 N10q
  have O10 := own_extK O6 K10q all0
  have KK10 : Keep h0 T10.heap [] := KK6.trans K10q all0
  refine own_go (T10.setTop (mkF m 26 #[.val (.ref a), .val (.ref q), .val (.ref b2), .unset, .unset] [(.ref i10)])) (fun t_ k_ => st10.trans k_) ?_
  refine own_go (T10.setTop (mkF m 27 #[.val (.ref a), .val (.ref q), .val (.ref b2), .val (.ref i10), .unset] [])) (fun t_ k_ => XS.astoreN X10.here hx rfl (hb hby own_d_prog_44_method_8_26) rfl rfl (l' := #[.val (.ref a), .val (.ref q), .val (.ref b2), .val (.ref i10), .unset]) rfl k_) ?_
  refine own_go (T10.setTop (mkF m 28 #[.val (.ref a), .val (.ref q), .val (.ref b2), .val (.ref i10), .unset] [(.ref i10)])) (fun t_ k_ => XS.aloadN X10.here hx rfl (hb hby own_d_prog_44_method_8_27) rfl rfl k_) ?_
  have Fz11 := ((Fz3.keep K6q (ninS Nz8 nin0)).keep K10q nin0)
  obtain ⟨cq12, kq12, q12a, q12b, q12c⟩ := isOf hZ rfl X10q
  obtain ⟨_, _, ⟨T12, Lu12, ku12, nu12⟩, -, X12, ⟨Lc12, hQ12, lu12, yu12, zu12⟩, st12⟩ := X10.interfaceBack hx (xi := (⟨"java/util/Iterator", "hasNext", "()Z"⟩ : MethodName)) (y := (⟨"java/util/ArrayList$Itr", "hasNext", "()Z"⟩ : MethodName)) hown (mvT hZ (hw _ (List.mem_of_getElem? (i := 146) rfl))) (mvT hZ (hw _ (List.mem_of_getElem? (i := 147) rfl))) (mvT hZ (hw _ (List.mem_of_getElem? (i := 148) rfl))) (mvT hZ (hw _ (List.mem_of_getElem? (i := 149) rfl))) (mvT hZ (hw _ (List.mem_of_getElem? (i := 150) rfl))) (mvT hZ (hw _ (List.mem_of_getElem? (i := 151) rfl))) (mvT hZ (hw _ (List.mem_of_getElem? (i := 152) rfl))) (mvT hZ (hw _ (List.mem_of_getElem? (i := 153) rfl))) (by decide) (backOf (W := 0) (rm_hasn l Z a0 hw [] (i10) (a) T10.heap O10 T10q C10q Fz11) hZ (hw _ (List.mem_of_getElem? (i := 154) rfl)) (hw _ (List.mem_of_getElem? (i := 132) rfl)) (by decide) (by decide)) q12a q12b q12c (g := (mkF m 28 #[.val (.ref a), .val (.ref q), .val (.ref b2), .val (.ref i10), .unset] [(.ref i10)])) rfl (by rw [hml]; rfl) (Steps.refl _) (argsL := []) (rest := []) (lenOf own_pd1 rfl) rfl (by show 2 * 0 + _ ≤ _; exact Nat.le_of_eq rfl) (hb hby own_d_prog_44_method_8_28) (fun _ _ => ⟨rfl, rfl, (by decide : 2 + 0 ≤ _), (by decide : 7 + 0 ≤ _)⟩)
  dsimp only [Pt.U, Pt.locs, Pt.cells, Pt.slots] at X12 lu12 yu12 zu12 st12 hQ12
  subst lu12 yu12 zu12
  obtain ⟨rfl, N12q, e12⟩ := hQ12
  have N12 := Fr.app N10 N12q
  refine own_go (T12.setTop (mkF m 33 #[.val (.ref a), .val (.ref q), .val (.ref b2), .val (.ref i10), .unset] [(.int (0 : Int32))])) (fun t_ k_ => st12.trans k_) ?_
  refine own_go (T12.setTop (mkF m 73 #[.val (.ref a), .val (.ref q), .val (.ref b2), .val (.ref i10), .unset] [])) (fun t_ k_ => XS.ifYes X12.here hx rfl (pc0 := 33) (pc' := 73) rfl (hb hby own_d_prog_44_method_8_33) rfl ((if0 _ _).trans (teq (by decide : (0 : Int32) = (0 : Int32))).1) (by decide) (by decide) k_) ?_
  refine own_go (T12.setTop (mkF m 74 #[.val (.ref a), .val (.ref q), .val (.ref b2), .val (.ref i10), .unset] [(.ref b2)])) (fun t_ k_ => XS.aloadN X12.here hx rfl (hb hby own_d_prog_44_method_8_73) rfl rfl k_) ?_
  have Fz13 := (X6q.keep K10q)
  obtain ⟨_, _, ⟨T14, Lu14, ku14, nu14⟩, -, X14, ⟨Lc14, hQ14, lu14, yu14, zu14⟩, st14⟩ := Jvm.LawKit.callS X12 hx (y := (⟨"java/util/Collections", "unmodifiableList", "(Ljava/util/List;)Ljava/util/List;"⟩ : MethodName)) hown (mvT hZ (hw _ (List.mem_of_getElem? (i := 158) rfl))) (mvT hZ (hw _ (List.mem_of_getElem? (i := 159) rfl))) (mvT hZ (hw _ (List.mem_of_getElem? (i := 160) rfl))) (mvT hZ (hw _ (List.mem_of_getElem? (i := 161) rfl))) (by decide) (backOf (W := 0) (rm_um l Z a0 hw [] (b2) (cs0) (a_EM) (a_DF) (m_A) (m_L) (m_R) T10.heap O10 w Fz13) hZ (hw _ (List.mem_of_getElem? (i := 161) rfl)) (hw _ (List.mem_of_getElem? (i := 160) rfl)) (by decide) (by decide)) (g := (mkF m 74 #[.val (.ref a), .val (.ref q), .val (.ref b2), .val (.ref i10), .unset] [(.ref b2)])) rfl (by rw [hml]; rfl) (argsL := [(.ref b2)]) (rest := []) (lenOf own_pd10 rfl) rfl (by show 2 * 0 + _ ≤ _; exact Nat.le_of_eq rfl) (hb hby own_d_prog_44_method_8_74) (fun _ _ => ⟨rfl, e12, (by decide : 2 + 1 ≤ _), (by decide : 7 + 2 ≤ _)⟩)
  dsimp only [Pt.U, Pt.locs, Pt.cells, Pt.slots] at X14 lu14 yu14 zu14 st14 hQ14
  subst lu14 yu14 zu14
  obtain ⟨r14, rfl, N14q, K14q⟩ := hQ14
  have N14 := Fr.app N12 N14q
  have O14 := own_extK O10 K14q all0
  have KK14 : Keep h0 T14.heap [] := KK10.trans K14q all0
  refine own_go (T14.setTop (mkF m 77 #[.val (.ref a), .val (.ref q), .val (.ref b2), .val (.ref i10), .unset] [(.ref r14)])) (fun t_ k_ => st14 _ k_) ?_
  obtain ⟨fs, hr, hrun, hended, hW, hsame⟩ := X14.leave (v := some (.ref r14)) (fun h => by rw [Bd.returns] at h; cases h)
  refine ⟨_, _, Jvm.RoadKit.retOut X14 hx Bd.returns rfl (Or.inr (Or.inr (Or.inr (Or.inr ⟨rfl, rfl, rfl⟩)))) (hb hby own_d_prog_44_method_8_77) hr, hrun, hended, _, _, rfl, ?_, ⟨_, rfl⟩, hW, hsame.mono (by decide) (by decide)⟩
  show Q_ls Z a q cs0 a_EM a_DF m_A m_L m_R h0 _ T14.heap _
  rw [show T14.heap = T14.heap from rfl]
  exact ⟨_, rfl, N14, KK14⟩
theorem own_pn12 : plainName "com/example/trailcaster/trailcaster/model/ParticipantObject" = true := by first | (simp [plainName, overriddenIn]; done) | decide +kernel
theorem own_ef_poA (m : MethodId) (a : Addr) (x1 : Addr) (o : Addr) (ci : Addr) (nm : Addr) (la : Addr) : entryFrame m #[(.ref a), (.ref x1), (.ref o), .null, (.ref ci), (.ref nm), .null, (.ref la), .null] 9 = mkF m 0 #[.val (.ref a), .val (.ref x1), .val (.ref o), .val .null, .val (.ref ci), .val (.ref nm), .val .null, .val (.ref la), .val .null] [] := by first | (simp [entryFrame, mkF, argsToLocals, Value.category]; done) | rfl
theorem own_d_prog_75_method_1_0 : decode prog_75_method_1_code 0 = .ok (.aload_n 0, 1) := by decide +kernel
theorem own_d_prog_75_method_1_1 : decode prog_75_method_1_code 1 = .ok (.invokespecial 1, 3) := by decide +kernel
theorem own_d_prog_75_method_1_4 : decode prog_75_method_1_code 4 = .ok (.aload_n 1, 1) := by decide +kernel
theorem own_d_prog_75_method_1_5 : decode prog_75_method_1_code 5 = .ok (.ldc 7, 2) := by decide +kernel
theorem own_lit_ParticipantObject_7 : ∀ c ∈ ([105, 100] : List Int32), ¬ c < 0 ∧ ¬ (255 : Int32) < c := by decide +kernel
theorem own_d_prog_75_method_1_7 : decode prog_75_method_1_code 7 = .ok (.invokestatic 9, 3) := by decide +kernel
theorem own_d_prog_75_method_1_10 : decode prog_75_method_1_code 10 = .ok (.pop, 1) := by decide +kernel
theorem own_d_prog_75_method_1_11 : decode prog_75_method_1_code 11 = .ok (.aload_n 2, 1) := by decide +kernel
theorem own_d_prog_75_method_1_12 : decode prog_75_method_1_code 12 = .ok (.ldc 15, 2) := by decide +kernel
theorem own_lit_ParticipantObject_15 : ∀ c ∈ ([116, 121, 112, 101, 67, 111, 100, 101] : List Int32), ¬ c < 0 ∧ ¬ (255 : Int32) < c := by decide +kernel
theorem own_d_prog_75_method_1_14 : decode prog_75_method_1_code 14 = .ok (.invokestatic 17, 3) := by decide +kernel
theorem own_d_prog_75_method_1_17 : decode prog_75_method_1_code 17 = .ok (.pop, 1) := by decide +kernel
theorem own_d_prog_75_method_1_18 : decode prog_75_method_1_code 18 = .ok (.aload_n 3, 1) := by decide +kernel
theorem own_d_prog_75_method_1_19 : decode prog_75_method_1_code 19 = .ok (.ldc 21, 2) := by decide +kernel
theorem own_lit_ParticipantObject_21 : ∀ c ∈ ([116, 121, 112, 101, 67, 111, 100, 101, 82, 111, 108, 101] : List Int32), ¬ c < 0 ∧ ¬ (255 : Int32) < c := by decide +kernel
theorem own_d_prog_75_method_1_21 : decode prog_75_method_1_code 21 = .ok (.invokestatic 23, 3) := by decide +kernel
theorem own_d_prog_75_method_1_24 : decode prog_75_method_1_code 24 = .ok (.pop, 1) := by decide +kernel
theorem own_d_prog_75_method_1_25 : decode prog_75_method_1_code 25 = .ok (.aload 4, 2) := by decide +kernel
theorem own_d_prog_75_method_1_27 : decode prog_75_method_1_code 27 = .ok (.ldc 26, 2) := by decide +kernel
theorem own_lit_ParticipantObject_26 : ∀ c ∈ ([105, 100, 84, 121, 112, 101, 67, 111, 100, 101] : List Int32), ¬ c < 0 ∧ ¬ (255 : Int32) < c := by decide +kernel
theorem own_d_prog_75_method_1_29 : decode prog_75_method_1_code 29 = .ok (.invokestatic 9, 3) := by decide +kernel
theorem own_d_prog_75_method_1_32 : decode prog_75_method_1_code 32 = .ok (.pop, 1) := by decide +kernel
theorem own_d_prog_75_method_1_33 : decode prog_75_method_1_code 33 = .ok (.aload 5, 2) := by decide +kernel
theorem own_d_prog_75_method_1_35 : decode prog_75_method_1_code 35 = .ok (.ifnonnull 7, 3) := by decide +kernel
theorem own_d_prog_75_method_1_42 : decode prog_75_method_1_code 42 = .ok (.iconst 0, 1) := by decide +kernel
theorem own_d_prog_75_method_1_43 : decode prog_75_method_1_code 43 = .ok (.aload 6, 2) := by decide +kernel
theorem own_d_prog_75_method_1_45 : decode prog_75_method_1_code 45 = .ok (.ifnonnull 7, 3) := by decide +kernel
theorem own_d_prog_75_method_1_48 : decode prog_75_method_1_code 48 = .ok (.iconst 1, 1) := by decide +kernel
theorem own_d_prog_75_method_1_49 : decode prog_75_method_1_code 49 = .ok (.goto 4, 3) := by decide +kernel
theorem own_d_prog_75_method_1_53 : decode prog_75_method_1_code 53 = .ok (.if_icmp .ne 11, 3) := by decide +kernel
theorem own_d_prog_75_method_1_64 : decode prog_75_method_1_code 64 = .ok (.aload 6, 2) := by decide +kernel
theorem own_d_prog_75_method_1_66 : decode prog_75_method_1_code 66 = .ok (.ifnonnull 7, 3) := by decide +kernel
theorem own_d_prog_75_method_1_69 : decode prog_75_method_1_code 69 = .ok (.aconst_null, 1) := by decide +kernel
theorem own_d_prog_75_method_1_70 : decode prog_75_method_1_code 70 = .ok (.goto 11, 3) := by decide +kernel
theorem own_d_prog_75_method_1_81 : decode prog_75_method_1_code 81 = .ok (.astore 6, 2) := by decide +kernel
theorem own_d_prog_75_method_1_83 : decode prog_75_method_1_code 83 = .ok (.aload 7, 2) := by decide +kernel
theorem own_d_prog_75_method_1_85 : decode prog_75_method_1_code 85 = .ok (.ldc 42, 2) := by decide +kernel
theorem own_lit_ParticipantObject_42 : ∀ c ∈ ([100, 101, 116, 97, 105, 108, 115] : List Int32), ¬ c < 0 ∧ ¬ (255 : Int32) < c := by decide +kernel
theorem own_d_prog_75_method_1_87 : decode prog_75_method_1_code 87 = .ok (.invokestatic 44, 3) := by decide +kernel
theorem own_pd11 : parseMethodDescriptor "(Ljava/util/List;Ljava/lang/String;)Ljava/util/List;" = some ⟨[(.object "java/util/List"), (.object "java/lang/String")], some (.object "java/util/List")⟩ := by decide +kernel
theorem own_d_prog_75_method_1_90 : decode prog_75_method_1_code 90 = .ok (.astore 7, 2) := by decide +kernel
theorem own_d_prog_75_method_1_92 : decode prog_75_method_1_code 92 = .ok (.aload_n 0, 1) := by decide +kernel
theorem own_d_prog_75_method_1_93 : decode prog_75_method_1_code 93 = .ok (.aload_n 1, 1) := by decide +kernel
theorem own_d_prog_75_method_1_94 : decode prog_75_method_1_code 94 = .ok (.putfield 48, 3) := by decide +kernel
theorem own_d_prog_75_method_1_97 : decode prog_75_method_1_code 97 = .ok (.aload_n 0, 1) := by decide +kernel
theorem own_d_prog_75_method_1_98 : decode prog_75_method_1_code 98 = .ok (.aload_n 2, 1) := by decide +kernel
theorem own_d_prog_75_method_1_99 : decode prog_75_method_1_code 99 = .ok (.putfield 53, 3) := by decide +kernel
theorem own_d_prog_75_method_1_102 : decode prog_75_method_1_code 102 = .ok (.aload_n 0, 1) := by decide +kernel
theorem own_d_prog_75_method_1_103 : decode prog_75_method_1_code 103 = .ok (.aload_n 3, 1) := by decide +kernel
theorem own_d_prog_75_method_1_104 : decode prog_75_method_1_code 104 = .ok (.putfield 55, 3) := by decide +kernel
theorem own_d_prog_75_method_1_107 : decode prog_75_method_1_code 107 = .ok (.aload_n 0, 1) := by decide +kernel
theorem own_d_prog_75_method_1_108 : decode prog_75_method_1_code 108 = .ok (.aload 4, 2) := by decide +kernel
theorem own_d_prog_75_method_1_110 : decode prog_75_method_1_code 110 = .ok (.putfield 57, 3) := by decide +kernel
theorem own_d_prog_75_method_1_113 : decode prog_75_method_1_code 113 = .ok (.aload_n 0, 1) := by decide +kernel
theorem own_d_prog_75_method_1_114 : decode prog_75_method_1_code 114 = .ok (.aload 5, 2) := by decide +kernel
theorem own_d_prog_75_method_1_116 : decode prog_75_method_1_code 116 = .ok (.putfield 60, 3) := by decide +kernel
theorem own_d_prog_75_method_1_119 : decode prog_75_method_1_code 119 = .ok (.aload_n 0, 1) := by decide +kernel
theorem own_d_prog_75_method_1_120 : decode prog_75_method_1_code 120 = .ok (.aload 6, 2) := by decide +kernel
theorem own_d_prog_75_method_1_122 : decode prog_75_method_1_code 122 = .ok (.putfield 62, 3) := by decide +kernel
theorem own_d_prog_75_method_1_125 : decode prog_75_method_1_code 125 = .ok (.aload_n 0, 1) := by decide +kernel
theorem own_d_prog_75_method_1_126 : decode prog_75_method_1_code 126 = .ok (.aload 7, 2) := by decide +kernel
theorem own_d_prog_75_method_1_128 : decode prog_75_method_1_code 128 = .ok (.putfield 65, 3) := by decide +kernel
theorem own_d_prog_75_method_1_131 : decode prog_75_method_1_code 131 = .ok (.aload_n 0, 1) := by decide +kernel
theorem own_d_prog_75_method_1_132 : decode prog_75_method_1_code 132 = .ok (.aload 8, 2) := by decide +kernel
theorem own_d_prog_75_method_1_134 : decode prog_75_method_1_code 134 = .ok (.putfield 68, 3) := by decide +kernel
theorem own_d_prog_75_method_1_137 : decode prog_75_method_1_code 137 = .ok (.return_, 1) := by decide +kernel
def Q_poA (Z : State) (a : Addr) (x1 : Addr) (ci : Addr) (la : Addr) (o : Addr) (t1 : Addr) (kb : ClassId) (vs : List Value) (nm : Addr) (cs0 : Int32) (a_EM : Addr) (a_DF : Addr) (m_A : Addr) (m_L : Addr) (m_R : Addr) (h0 : Heap) (v_ : Option Value) (h : Heap) (L_ : List Loc) : Prop := v_ = none ∧ Fr Z.heap.size L_ ∧ (Keep h0 h [a] ∧ Exa Z h a "com/example/trailcaster/trailcaster/model/ParticipantObject" ∧ Fld Z h a "com/example/trailcaster/trailcaster/model/ParticipantObject" "query" "[B" .null)
set_option maxRecDepth 65536 in
set_option maxHeartbeats 40000000 in
theorem rm_poA (l : Launch) (Z : State) (a0 : Array Value) (hw : ∀ d ∈ tables_1, d.before a0 Z = true) (ws : List Jvm.Cond) (a : Addr) (x1 : Addr) (ci : Addr) (la : Addr) (o : Addr) (t1 : Addr) (kb : ClassId) (vs : List Value) (nm : Addr) (cs0 : Int32) (a_EM : Addr) (a_DF : Addr) (m_A : Addr) (m_L : Addr) (m_R : Addr) (h0 : Heap) (O : Ext Z.heap h0) (w : own_W Z cs0 a_EM a_DF m_A m_L m_R) (X : Exa Z h0 a "com/example/trailcaster/trailcaster/model/ParticipantObject") (F0 : Fld Z h0 a "com/example/trailcaster/trailcaster/model/ParticipantObject" "id" "Ljava/lang/String;" .null) (F1 : Fld Z h0 a "com/example/trailcaster/trailcaster/model/ParticipantObject" "typeCode" "Ljava/lang/String;" .null) (F2 : Fld Z h0 a "com/example/trailcaster/trailcaster/model/ParticipantObject" "typeCodeRole" "Ljava/lang/String;" .null) (F3 : Fld Z h0 a "com/example/trailcaster/trailcaster/model/ParticipantObject" "idTypeCode" "Lcom/example/trailcaster/trailcaster/model/CodedValue;" .null) (F4 : Fld Z h0 a "com/example/trailcaster/trailcaster/model/ParticipantObject" "name" "Ljava/lang/String;" .null) (F5 : Fld Z h0 a "com/example/trailcaster/trailcaster/model/ParticipantObject" "query" "[B" .null) (F6 : Fld Z h0 a "com/example/trailcaster/trailcaster/model/ParticipantObject" "details" "Ljava/util/List;" .null) (F7 : Fld Z h0 a "com/example/trailcaster/trailcaster/model/ParticipantObject" "description" "Lcom/example/trailcaster/trailcaster/model/DicomObjectDescription;" .null) (ga : Z.heap.size ≤ a) (Xl : Exa Z h0 la "java/util/ArrayList") (Fm : Fld Z h0 la "java/util/AbstractList" "modCount" "I" (.int 0)) (Fs : Fld Z h0 la "java/util/ArrayList" "size" "I" (.int 0)) (Xo : Exa Z h0 o "java/lang/String") (Vo : Fld Z h0 o "java/lang/String" "value" "[B" (.ref t1)) (Ao : Arv Z h0 t1 kb .byte 1 vs (.int 0)) :
    MetFree l (⟨"com/example/trailcaster/trailcaster/model/ParticipantObject", "<init>", "(Ljava/lang/String;Ljava/lang/String;Ljava/lang/String;Lcom/example/trailcaster/trailcaster/model/CodedValue;Ljava/lang/String;[BLjava/util/List;Lcom/example/trailcaster/trailcaster/model/DicomObjectDescription;)V"⟩ : MethodName) (head1 (Jvm.Cond.code (⟨"com/example/trailcaster/trailcaster/model/ParticipantObject", "<init>", "(Ljava/lang/String;Ljava/lang/String;Ljava/lang/String;Lcom/example/trailcaster/trailcaster/model/CodedValue;Ljava/lang/String;[BLjava/util/List;Lcom/example/trailcaster/trailcaster/model/DicomObjectDescription;)V"⟩ : MethodName) prog_75_method_1_code 9 none :: ws) ({ frames := 6, cells := 13, slots := 185, locals := 80 } : Room)) (fun a_ U_ => a_ = #[(.ref a), (.ref x1), (.ref o), .null, (.ref ci), (.ref nm), .null, (.ref la), .null] ∧ Z.Warmed39 U_.vm ∧ U_.heap = h0 ∧ CHv Z consts_1 U_.vm h0) (fun _ _ _ _ _ => True) (fun _ U_ o_ U2_ => ∃ v_ L_, o_ = .returned v_ ∧ Q_poA Z a x1 ci la o t1 kb vs nm cs0 a_EM a_DF m_A m_L m_R h0 v_ U2_.heap L_ ∧ CHr Z consts_1 U_.vm U_.heap U2_.vm U2_.heap ∧ ReturnedEndW U_ o_ U2_ L_ ({ frames := 6, cells := 13, slots := 185, locals := 80 } : Room).cells ({ frames := 6, cells := 13, slots := 185, locals := 80 } : Room).slots) := by
  refine MetFree.of_bodySF (plainFor_of_name own_pn12) hisR ?_
  intro p e s m args below meth c s₁ Bd hml0 hP hK
  obtain ⟨rfl, hZ, hh, hCH⟩ := hP
  have hx := Bd.exec
  have hby := Bd.bytes
  have hml : c.maxLocals = 9 := hml0
  have hown : s.vm.findClass "com/example/trailcaster/trailcaster/model/ParticipantObject" = some m.cls := findClass_of_methodNamed Bd.named
  have hnm := (name_of_methodNamed Bd.named Bd.method).1
  have X0 : Stand p l e ({ frames := 6, cells := 13, slots := 185, locals := 80 } : Room) (s.setVm s.vm) m #[(.ref a), (.ref x1), (.ref o), .null, (.ref ci), (.ref nm), .null, (.ref la), .null] below meth c s₁ [] 0 0 := Stand.of_body Bd
  have e0 : s₁.heap = h0 := by rw [← hh, Bd.state]; rfl
  have N0 := Fr.nil Z.heap.size
  have hS : s.Since s.vm s.heap.size := (State.WarmedH.refl _).since _
  have hk : s.heap.size ≤ h0.size := Nat.le_of_eq (congrArg Array.size hh)
  have hZ : Z.Warmed39 (s.setVm s.vm).vm := hZ
  have hown : (s.setVm s.vm).vm.findClass "com/example/trailcaster/trailcaster/model/ParticipantObject" = some m.cls := hown
  show own_G p e below (fun o_ s₂ => ∃ v_ L_, o_ = .returned v_ ∧ Q_poA Z a x1 ci la o t1 kb vs nm cs0 a_EM a_DF m_A m_L m_R h0 v_ s₂.heap L_ ∧ CHr Z consts_1 s.vm s.heap s₂.vm s₂.heap ∧ ReturnedEndW s o_ s₂ L_ ({ frames := 6, cells := 13, slots := 185, locals := 80 } : Room).cells ({ frames := 6, cells := 13, slots := 185, locals := 80 } : Room).slots) (s₁.setTop (entryFrame m #[(.ref a), (.ref x1), (.ref o), .null, (.ref ci), (.ref nm), .null, (.ref la), .null] 9))
  refine own_go (s₁.setTop (mkF m 0 #[.val (.ref a), .val (.ref x1), .val (.ref o), .val .null, .val (.ref ci), .val (.ref nm), .val .null, .val (.ref la), .val .null] [])) (fun t_ k_ => castTop (own_ef_poA m a x1 o ci nm la) k_) ?_
  have R0 := CHr.refl hCH
  have hEW : EW Z a0 consts_1 := own_EW hw
  have w' := w
  obtain ⟨S_CS, n_CS, S_EM, S_DF, M_A, M_L, M_R⟩ := w'
  have Sa : Safe Z consts_1 s.vm h0 a := Safe.exa hZ.alike X (by decide) (by decide)
  refine own_go (s₁.setTop (mkF m 1 #[.val (.ref a), .val (.ref x1), .val (.ref o), .val .null, .val (.ref ci), .val (.ref nm), .val .null, .val (.ref la), .val .null] [(.ref a)])) (fun t_ k_ => XS.aloadN X0.here hx rfl (hb hby own_d_prog_75_method_1_0) rfl rfl k_) ?_
  obtain ⟨_, _, ⟨T1, Lu1, ku1, nu1⟩, -, X1, ⟨Lc1, hQ1, lu1, yu1, zu1⟩, st1⟩ := X0.specialBack hx (y := (⟨"java/lang/Record", "<init>", "()V"⟩ : MethodName)) rfl hown (mvT hZ (hw _ (List.mem_of_getElem? (i := 83) rfl))) (mvT hZ (hw _ (List.mem_of_getElem? (i := 17) rfl))) (mvT hZ (hw _ (List.mem_of_getElem? (i := 20) rfl))) (by decide) (backOf (W := 0) (rm_rec l Z a0 hw [] (a) h0 O ) hZ (hw _ (List.mem_of_getElem? (i := 20) rfl)) (hw _ (List.mem_of_getElem? (i := 19) rfl)) (by decide) (by decide)) (g := (mkF m 1 #[.val (.ref a), .val (.ref x1), .val (.ref o), .val .null, .val (.ref ci), .val (.ref nm), .val .null, .val (.ref la), .val .null] [(.ref a)])) rfl (by rw [hml]; rfl) (Steps.refl _) (a := a) (argsL := []) (rest := []) (lenOf own_pd2 rfl) rfl (by show 2 * 0 + _ ≤ _; exact Nat.le_of_eq rfl) (hb hby own_d_prog_75_method_1_1) (fun _ _ => ⟨rfl, e0, (by decide : 0 + 0 ≤ _), (by decide : 0 + 0 ≤ _)⟩)
  dsimp only [Pt.U, Pt.locs, Pt.cells, Pt.slots] at X1 lu1 yu1 zu1 st1 hQ1
  subst lu1 yu1 zu1
  obtain ⟨rfl, N1q, e1⟩ := hQ1
  have N1 := Fr.app N0 N1q
  refine own_go (T1.setTop (mkF m 4 #[.val (.ref a), .val (.ref x1), .val (.ref o), .val .null, .val (.ref ci), .val (.ref nm), .val .null, .val (.ref la), .val .null] [])) (fun t_ k_ => st1.trans k_) ?_
  refine own_go (T1.setTop (mkF m 5 #[.val (.ref a), .val (.ref x1), .val (.ref o), .val .null, .val (.ref ci), .val (.ref nm), .val .null, .val (.ref la), .val .null] [(.ref x1)])) (fun t_ k_ => XS.aloadN X1.here hx rfl (hb hby own_d_prog_75_method_1_4) rfl rfl k_) ?_
  obtain ⟨a2, T2, h2, k2, t2, kb2, X2, e2, E2, hS, hk, hZ, hown, A2, C2, V2, B2, lt2, ltb2, CC2, Li2, ne2, st2⟩ := ldcCH (EL := consts_1) X1 hx hZ hown (hw _ (List.mem_of_getElem? (i := 84) rfl)) (fun d hd => hw d (own_sA d hd)) e1 hS hk hEW (List.mem_of_getElem? (i := 3) rfl) R0.1 (vs := (([105, 100] : List Int32).map (fun c => c.toInt8.toInt32)).map Value.int) (z := 2) (by exact ⟨by decide, by rfl⟩) (by decide) (by rfl) (g := (mkF m 5 #[.val (.ref a), .val (.ref x1), .val (.ref o), .val .null, .val (.ref ci), .val (.ref nm), .val .null, .val (.ref la), .val .null] [(.ref x1)])) rfl (hb hby own_d_prog_75_method_1_5) (n := 8) (by decide) (by decide) (by decide) (by decide)
  have K2 : Keep h0 h2 [a] := (Keep.refl h0 [a]).ext E2
  have O2 := own_ext O E2
  have R2 := R0.trans CC2
  refine own_go (T2.setTop (mkF m 7 #[.val (.ref a), .val (.ref x1), .val (.ref o), .val .null, .val (.ref ci), .val (.ref nm), .val .null, .val (.ref la), .val .null] [(.ref a2), (.ref x1)])) (fun t_ k_ => st2 _ k_) ?_
  obtain ⟨_, _, ⟨T3, Lu3, ku3, nu3⟩, -, X3, ⟨Lc3, hQ3, lu3, yu3, zu3⟩, st3⟩ := Jvm.LawKit.callS X2 hx (y := (⟨"com/example/trailcaster/trailcaster/model/Checks", "required", "(Ljava/lang/Object;Ljava/lang/String;)Ljava/lang/Object;"⟩ : MethodName)) hown (mvT hZ (hw _ (List.mem_of_getElem? (i := 85) rfl))) (mvT hZ (hw _ (List.mem_of_getElem? (i := 30) rfl))) (mvT hZ (hw _ (List.mem_of_getElem? (i := 27) rfl))) (mvT hZ (hw _ (List.mem_of_getElem? (i := 31) rfl))) (by decide) (backOf (W := 0) (rm_rq l Z a0 hw [] (x1) (a2) h2 O2 ) hZ (hw _ (List.mem_of_getElem? (i := 31) rfl)) (hw _ (List.mem_of_getElem? (i := 27) rfl)) (by decide) (by decide)) (g := (mkF m 7 #[.val (.ref a), .val (.ref x1), .val (.ref o), .val .null, .val (.ref ci), .val (.ref nm), .val .null, .val (.ref la), .val .null] [(.ref a2), (.ref x1)])) rfl (by rw [hml]; rfl) (argsL := [(.ref x1), (.ref a2)]) (rest := []) (lenOf own_pd0 rfl) rfl (by show 2 * 0 + _ ≤ _; exact Nat.le_of_eq rfl) (hb hby own_d_prog_75_method_1_7) (fun _ _ => ⟨rfl, e2, (by decide : 2 + 0 ≤ _), (by decide : 12 + 0 ≤ _)⟩)
  dsimp only [Pt.U, Pt.locs, Pt.cells, Pt.slots] at X3 lu3 yu3 zu3 st3 hQ3
  subst lu3 yu3 zu3
  obtain ⟨rfl, N3q, e3⟩ := hQ3
  have N3 := Fr.app N1 N3q
  refine own_go (T3.setTop (mkF m 10 #[.val (.ref a), .val (.ref x1), .val (.ref o), .val .null, .val (.ref ci), .val (.ref nm), .val .null, .val (.ref la), .val .null] [(.ref x1)])) (fun t_ k_ => st3 _ k_) ?_
  refine own_go (T3.setTop (mkF m 11 #[.val (.ref a), .val (.ref x1), .val (.ref o), .val .null, .val (.ref ci), .val (.ref nm), .val .null, .val (.ref la), .val .null] [])) (fun t_ k_ => XS.pop X3.here hx rfl (hb hby own_d_prog_75_method_1_10) rfl rfl k_) ?_
  refine own_go (T3.setTop (mkF m 12 #[.val (.ref a), .val (.ref x1), .val (.ref o), .val .null, .val (.ref ci), .val (.ref nm), .val .null, .val (.ref la), .val .null] [(.ref o)])) (fun t_ k_ => XS.aloadN X3.here hx rfl (hb hby own_d_prog_75_method_1_11) rfl rfl k_) ?_
  obtain ⟨a4, T4, h4, k4, t4, kb4, X4, e4, E4, hS, hk, hZ, hown, A4, C4, V4, B4, lt4, ltb4, CC4, Li4, ne4, st4⟩ := ldcCH (EL := consts_1) X3 hx hZ hown (hw _ (List.mem_of_getElem? (i := 86) rfl)) (fun d hd => hw d (own_sA d hd)) e3 hS hk hEW (List.mem_of_getElem? (i := 4) rfl) R2.1 (vs := (([116, 121, 112, 101, 67, 111, 100, 101] : List Int32).map (fun c => c.toInt8.toInt32)).map Value.int) (z := 8) (by exact ⟨by decide, by rfl⟩) (by decide) (by rfl) (g := (mkF m 12 #[.val (.ref a), .val (.ref x1), .val (.ref o), .val .null, .val (.ref ci), .val (.ref nm), .val .null, .val (.ref la), .val .null] [(.ref o)])) rfl (hb hby own_d_prog_75_method_1_12) (n := 32) (by decide) (by decide) (by decide) (by decide)
  have K4 : Keep h0 h4 [a] := K2.ext E4
  have O4 := own_ext O2 E4
  have R4 := R2.trans CC4
  refine own_go (T4.setTop (mkF m 14 #[.val (.ref a), .val (.ref x1), .val (.ref o), .val .null, .val (.ref ci), .val (.ref nm), .val .null, .val (.ref la), .val .null] [(.ref a4), (.ref o)])) (fun t_ k_ => st4 _ k_) ?_
  have Fz5 := ((Xo.ext E2).ext E4)
  have Fz6 := ((Vo.ext E2).ext E4)
  have Fz7 := ((Ao.ext E2).ext E4)
  obtain ⟨_, _, ⟨T8, Lu8, ku8, nu8⟩, -, X8, ⟨Lc8, hQ8, lu8, yu8, zu8⟩, st8⟩ := Jvm.LawKit.callS X4 hx (y := (⟨"com/example/trailcaster/trailcaster/model/Checks", "text", "(Ljava/lang/String;Ljava/lang/String;)Ljava/lang/String;"⟩ : MethodName)) hown (mvT hZ (hw _ (List.mem_of_getElem? (i := 87) rfl))) (mvT hZ (hw _ (List.mem_of_getElem? (i := 26) rfl))) (mvT hZ (hw _ (List.mem_of_getElem? (i := 27) rfl))) (mvT hZ (hw _ (List.mem_of_getElem? (i := 28) rfl))) (by decide) (backOf (W := 0) (rm_tx l Z a0 hw [] (o) (t1) (kb) (_) (a4) h4 O4 Fz5 Fz6 Fz7) hZ (hw _ (List.mem_of_getElem? (i := 28) rfl)) (hw _ (List.mem_of_getElem? (i := 27) rfl)) (by decide) (by decide)) (g := (mkF m 14 #[.val (.ref a), .val (.ref x1), .val (.ref o), .val .null, .val (.ref ci), .val (.ref nm), .val .null, .val (.ref la), .val .null] [(.ref a4), (.ref o)])) rfl (by rw [hml]; rfl) (argsL := [(.ref o), (.ref a4)]) (rest := []) (lenOf own_pd3 rfl) rfl (by show 2 * 0 + _ ≤ _; exact Nat.le_of_eq rfl) (hb hby own_d_prog_75_method_1_14) (fun _ _ => ⟨rfl, e4, (by decide : 4 + 0 ≤ _), (by decide : 48 + 0 ≤ _)⟩)
  dsimp only [Pt.U, Pt.locs, Pt.cells, Pt.slots] at X8 lu8 yu8 zu8 st8 hQ8
  subst lu8 yu8 zu8
  obtain ⟨rfl, N8q, e8⟩ := hQ8
  have N8 := Fr.app N3 N8q
  refine own_go (T8.setTop (mkF m 17 #[.val (.ref a), .val (.ref x1), .val (.ref o), .val .null, .val (.ref ci), .val (.ref nm), .val .null, .val (.ref la), .val .null] [(.ref o)])) (fun t_ k_ => st8 _ k_) ?_
  refine own_go (T8.setTop (mkF m 18 #[.val (.ref a), .val (.ref x1), .val (.ref o), .val .null, .val (.ref ci), .val (.ref nm), .val .null, .val (.ref la), .val .null] [])) (fun t_ k_ => XS.pop X8.here hx rfl (hb hby own_d_prog_75_method_1_17) rfl rfl k_) ?_
  refine own_go (T8.setTop (mkF m 19 #[.val (.ref a), .val (.ref x1), .val (.ref o), .val .null, .val (.ref ci), .val (.ref nm), .val .null, .val (.ref la), .val .null] [.null])) (fun t_ k_ => XS.aloadN X8.here hx rfl (hb hby own_d_prog_75_method_1_18) rfl rfl k_) ?_
  obtain ⟨a9, T9, h9, k9, t9, kb9, X9, e9, E9, hS, hk, hZ, hown, A9, C9, V9, B9, lt9, ltb9, CC9, Li9, ne9, st9⟩ := ldcCH (EL := consts_1) X8 hx hZ hown (hw _ (List.mem_of_getElem? (i := 88) rfl)) (fun d hd => hw d (own_sA d hd)) e8 hS hk hEW (List.mem_of_getElem? (i := 5) rfl) R4.1 (vs := (([116, 121, 112, 101, 67, 111, 100, 101, 82, 111, 108, 101] : List Int32).map (fun c => c.toInt8.toInt32)).map Value.int) (z := 12) (by exact ⟨by decide, by rfl⟩) (by decide) (by rfl) (g := (mkF m 19 #[.val (.ref a), .val (.ref x1), .val (.ref o), .val .null, .val (.ref ci), .val (.ref nm), .val .null, .val (.ref la), .val .null] [.null])) rfl (hb hby own_d_prog_75_method_1_19) (n := 48) (by decide) (by decide) (by decide) (by decide)
  have K9 : Keep h0 h9 [a] := K4.ext E9
  have O9 := own_ext O4 E9
  have R9 := R4.trans CC9
  refine own_go (T9.setTop (mkF m 21 #[.val (.ref a), .val (.ref x1), .val (.ref o), .val .null, .val (.ref ci), .val (.ref nm), .val .null, .val (.ref la), .val .null] [(.ref a9), .null])) (fun t_ k_ => st9 _ k_) ?_
  obtain ⟨_, _, ⟨T10, Lu10, ku10, nu10⟩, -, X10, ⟨Lc10, hQ10, lu10, yu10, zu10⟩, st10⟩ := Jvm.LawKit.callS X9 hx (y := (⟨"com/example/trailcaster/trailcaster/model/Checks", "optionalText", "(Ljava/lang/String;Ljava/lang/String;)Ljava/lang/String;"⟩ : MethodName)) hown (mvT hZ (hw _ (List.mem_of_getElem? (i := 89) rfl))) (mvT hZ (hw _ (List.mem_of_getElem? (i := 90) rfl))) (mvT hZ (hw _ (List.mem_of_getElem? (i := 27) rfl))) (mvT hZ (hw _ (List.mem_of_getElem? (i := 91) rfl))) (by decide) (backOf (W := 0) (rm_ot l Z a0 hw [] (a9) h9 O9 ) hZ (hw _ (List.mem_of_getElem? (i := 91) rfl)) (hw _ (List.mem_of_getElem? (i := 27) rfl)) (by decide) (by decide)) (g := (mkF m 21 #[.val (.ref a), .val (.ref x1), .val (.ref o), .val .null, .val (.ref ci), .val (.ref nm), .val .null, .val (.ref la), .val .null] [(.ref a9), .null])) rfl (by rw [hml]; rfl) (argsL := [.null, (.ref a9)]) (rest := []) (lenOf own_pd3 rfl) rfl (by show 2 * 0 + _ ≤ _; exact Nat.le_of_eq rfl) (hb hby own_d_prog_75_method_1_21) (fun _ _ => ⟨rfl, e9, (by decide : 6 + 0 ≤ _), (by decide : 100 + 0 ≤ _)⟩)
  dsimp only [Pt.U, Pt.locs, Pt.cells, Pt.slots] at X10 lu10 yu10 zu10 st10 hQ10
  subst lu10 yu10 zu10
  obtain ⟨rfl, N10q, e10⟩ := hQ10
  have N10 := Fr.app N8 N10q
  refine own_go (T10.setTop (mkF m 24 #[.val (.ref a), .val (.ref x1), .val (.ref o), .val .null, .val (.ref ci), .val (.ref nm), .val .null, .val (.ref la), .val .null] [.null])) (fun t_ k_ => st10 _ k_) ?_
  refine own_go (T10.setTop (mkF m 25 #[.val (.ref a), .val (.ref x1), .val (.ref o), .val .null, .val (.ref ci), .val (.ref nm), .val .null, .val (.ref la), .val .null] [])) (fun t_ k_ => XS.pop X10.here hx rfl (hb hby own_d_prog_75_method_1_24) rfl rfl k_) ?_
  refine own_go (T10.setTop (mkF m 27 #[.val (.ref a), .val (.ref x1), .val (.ref o), .val .null, .val (.ref ci), .val (.ref nm), .val .null, .val (.ref la), .val .null] [(.ref ci)])) (fun t_ k_ => XS.aload X10.here hx rfl (hb hby own_d_prog_75_method_1_25) rfl rfl k_) ?_
  obtain ⟨a11, T11, h11, k11, t11, kb11, X11, e11, E11, hS, hk, hZ, hown, A11, C11, V11, B11, lt11, ltb11, CC11, Li11, ne11, st11⟩ := ldcCH (EL := consts_1) X10 hx hZ hown (hw _ (List.mem_of_getElem? (i := 92) rfl)) (fun d hd => hw d (own_sA d hd)) e10 hS hk hEW (List.mem_of_getElem? (i := 6) rfl) R9.1 (vs := (([105, 100, 84, 121, 112, 101, 67, 111, 100, 101] : List Int32).map (fun c => c.toInt8.toInt32)).map Value.int) (z := 10) (by exact ⟨by decide, by rfl⟩) (by decide) (by rfl) (g := (mkF m 27 #[.val (.ref a), .val (.ref x1), .val (.ref o), .val .null, .val (.ref ci), .val (.ref nm), .val .null, .val (.ref la), .val .null] [(.ref ci)])) rfl (hb hby own_d_prog_75_method_1_27) (n := 40) (by decide) (by decide) (by decide) (by decide)
  have K11 : Keep h0 h11 [a] := K9.ext E11
  have O11 := own_ext O9 E11
  have R11 := R9.trans CC11
  refine own_go (T11.setTop (mkF m 29 #[.val (.ref a), .val (.ref x1), .val (.ref o), .val .null, .val (.ref ci), .val (.ref nm), .val .null, .val (.ref la), .val .null] [(.ref a11), (.ref ci)])) (fun t_ k_ => st11 _ k_) ?_
  obtain ⟨_, _, ⟨T12, Lu12, ku12, nu12⟩, -, X12, ⟨Lc12, hQ12, lu12, yu12, zu12⟩, st12⟩ := Jvm.LawKit.callS X11 hx (y := (⟨"com/example/trailcaster/trailcaster/model/Checks", "required", "(Ljava/lang/Object;Ljava/lang/String;)Ljava/lang/Object;"⟩ : MethodName)) hown (mvT hZ (hw _ (List.mem_of_getElem? (i := 85) rfl))) (mvT hZ (hw _ (List.mem_of_getElem? (i := 30) rfl))) (mvT hZ (hw _ (List.mem_of_getElem? (i := 27) rfl))) (mvT hZ (hw _ (List.mem_of_getElem? (i := 31) rfl))) (by decide) (backOf (W := 0) (rm_rq l Z a0 hw [] (ci) (a11) h11 O11 ) hZ (hw _ (List.mem_of_getElem? (i := 31) rfl)) (hw _ (List.mem_of_getElem? (i := 27) rfl)) (by decide) (by decide)) (g := (mkF m 29 #[.val (.ref a), .val (.ref x1), .val (.ref o), .val .null, .val (.ref ci), .val (.ref nm), .val .null, .val (.ref la), .val .null] [(.ref a11), (.ref ci)])) rfl (by rw [hml]; rfl) (argsL := [(.ref ci), (.ref a11)]) (rest := []) (lenOf own_pd0 rfl) rfl (by show 2 * 0 + _ ≤ _; exact Nat.le_of_eq rfl) (hb hby own_d_prog_75_method_1_29) (fun _ _ => ⟨rfl, e11, (by decide : 8 + 0 ≤ _), (by decide : 144 + 0 ≤ _)⟩)
  dsimp only [Pt.U, Pt.locs, Pt.cells, Pt.slots] at X12 lu12 yu12 zu12 st12 hQ12
  subst lu12 yu12 zu12
  obtain ⟨rfl, N12q, e12⟩ := hQ12
  have N12 := Fr.app N10 N12q
  refine own_go (T12.setTop (mkF m 32 #[.val (.ref a), .val (.ref x1), .val (.ref o), .val .null, .val (.ref ci), .val (.ref nm), .val .null, .val (.ref la), .val .null] [(.ref ci)])) (fun t_ k_ => st12 _ k_) ?_
  refine own_go (T12.setTop (mkF m 33 #[.val (.ref a), .val (.ref x1), .val (.ref o), .val .null, .val (.ref ci), .val (.ref nm), .val .null, .val (.ref la), .val .null] [])) (fun t_ k_ => XS.pop X12.here hx rfl (hb hby own_d_prog_75_method_1_32) rfl rfl k_) ?_
  refine own_go (T12.setTop (mkF m 35 #[.val (.ref a), .val (.ref x1), .val (.ref o), .val .null, .val (.ref ci), .val (.ref nm), .val .null, .val (.ref la), .val .null] [(.ref nm)])) (fun t_ k_ => XS.aload X12.here hx rfl (hb hby own_d_prog_75_method_1_33) rfl rfl k_) ?_
  refine own_go (T12.setTop (mkF m 42 #[.val (.ref a), .val (.ref x1), .val (.ref o), .val .null, .val (.ref ci), .val (.ref nm), .val .null, .val (.ref la), .val .null] [])) (fun t_ k_ => XS.ifnonnullYes X12.here hx rfl (pc0 := 35) (pc' := 42) rfl (hb hby own_d_prog_75_method_1_35) rfl (by decide) (by decide) k_) ?_
  refine own_go (T12.setTop (mkF m 43 #[.val (.ref a), .val (.ref x1), .val (.ref o), .val .null, .val (.ref ci), .val (.ref nm), .val .null, .val (.ref la), .val .null] [(.int (0 : Int32))])) (fun t_ k_ => XS.iconst X12.here hx rfl (hb hby own_d_prog_75_method_1_42) k_) ?_
  refine own_go (T12.setTop (mkF m 45 #[.val (.ref a), .val (.ref x1), .val (.ref o), .val .null, .val (.ref ci), .val (.ref nm), .val .null, .val (.ref la), .val .null] [.null, (.int (0 : Int32))])) (fun t_ k_ => XS.aload X12.here hx rfl (hb hby own_d_prog_75_method_1_43) rfl rfl k_) ?_
  refine own_go (T12.setTop (mkF m 48 #[.val (.ref a), .val (.ref x1), .val (.ref o), .val .null, .val (.ref ci), .val (.ref nm), .val .null, .val (.ref la), .val .null] [(.int (0 : Int32))])) (fun t_ k_ => XS.ifnonnullNo X12.here hx rfl (hb hby own_d_prog_75_method_1_45) rfl k_) ?_
  refine own_go (T12.setTop (mkF m 49 #[.val (.ref a), .val (.ref x1), .val (.ref o), .val .null, .val (.ref ci), .val (.ref nm), .val .null, .val (.ref la), .val .null] [(.int (1 : Int32)), (.int (0 : Int32))])) (fun t_ k_ => XS.iconst X12.here hx rfl (hb hby own_d_prog_75_method_1_48) k_) ?_
  refine own_go (T12.setTop (mkF m 53 #[.val (.ref a), .val (.ref x1), .val (.ref o), .val .null, .val (.ref ci), .val (.ref nm), .val .null, .val (.ref la), .val .null] [(.int (1 : Int32)), (.int (0 : Int32))])) (fun t_ k_ => XS.goto X12.here hx rfl (pc0 := 49) (pc' := 53) rfl (hb hby own_d_prog_75_method_1_49) (by decide) (by decide) k_) ?_
  refine own_go (T12.setTop (mkF m 64 #[.val (.ref a), .val (.ref x1), .val (.ref o), .val .null, .val (.ref ci), .val (.ref nm), .val .null, .val (.ref la), .val .null] [])) (fun t_ k_ => XS.icmpYes X12.here hx rfl (pc0 := 53) (pc' := 64) rfl (hb hby own_d_prog_75_method_1_53) rfl (feq (by decide : ¬ ((0 : Int32) = (1 : Int32)))).2 (by decide) (by decide) k_) ?_
  refine own_go (T12.setTop (mkF m 66 #[.val (.ref a), .val (.ref x1), .val (.ref o), .val .null, .val (.ref ci), .val (.ref nm), .val .null, .val (.ref la), .val .null] [.null])) (fun t_ k_ => XS.aload X12.here hx rfl (hb hby own_d_prog_75_method_1_64) rfl rfl k_) ?_
  refine own_go (T12.setTop (mkF m 69 #[.val (.ref a), .val (.ref x1), .val (.ref o), .val .null, .val (.ref ci), .val (.ref nm), .val .null, .val (.ref la), .val .null] [])) (fun t_ k_ => XS.ifnonnullNo X12.here hx rfl (hb hby own_d_prog_75_method_1_66) rfl k_) ?_
  refine own_go (T12.setTop (mkF m 70 #[.val (.ref a), .val (.ref x1), .val (.ref o), .val .null, .val (.ref ci), .val (.ref nm), .val .null, .val (.ref la), .val .null] [.null])) (fun t_ k_ => XS.aconstNull X12.here hx rfl (hb hby own_d_prog_75_method_1_69) k_) ?_
  refine own_go (T12.setTop (mkF m 81 #[.val (.ref a), .val (.ref x1), .val (.ref o), .val .null, .val (.ref ci), .val (.ref nm), .val .null, .val (.ref la), .val .null] [.null])) (fun t_ k_ => XS.goto X12.here hx rfl (pc0 := 70) (pc' := 81) rfl (hb hby own_d_prog_75_method_1_70) (by decide) (by decide) k_) ?_
  refine own_go (T12.setTop (mkF m 83 #[.val (.ref a), .val (.ref x1), .val (.ref o), .val .null, .val (.ref ci), .val (.ref nm), .val .null, .val (.ref la), .val .null] [])) (fun t_ k_ => XS.astore X12.here hx rfl (hb hby own_d_prog_75_method_1_81) rfl rfl (l' := #[.val (.ref a), .val (.ref x1), .val (.ref o), .val .null, .val (.ref ci), .val (.ref nm), .val .null, .val (.ref la), .val .null]) rfl k_) ?_
  refine own_go (T12.setTop (mkF m 85 #[.val (.ref a), .val (.ref x1), .val (.ref o), .val .null, .val (.ref ci), .val (.ref nm), .val .null, .val (.ref la), .val .null] [(.ref la)])) (fun t_ k_ => XS.aload X12.here hx rfl (hb hby own_d_prog_75_method_1_83) rfl rfl k_) ?_
  obtain ⟨a13, T13, h13, k13, t13, kb13, X13, e13, E13, hS, hk, hZ, hown, A13, C13, V13, B13, lt13, ltb13, CC13, Li13, ne13, st13⟩ := ldcCH (EL := consts_1) X12 hx hZ hown (hw _ (List.mem_of_getElem? (i := 102) rfl)) (fun d hd => hw d (own_sA d hd)) e12 hS hk hEW (List.mem_of_getElem? (i := 7) rfl) R11.1 (vs := (([100, 101, 116, 97, 105, 108, 115] : List Int32).map (fun c => c.toInt8.toInt32)).map Value.int) (z := 7) (by exact ⟨by decide, by rfl⟩) (by decide) (by rfl) (g := (mkF m 85 #[.val (.ref a), .val (.ref x1), .val (.ref o), .val .null, .val (.ref ci), .val (.ref nm), .val .null, .val (.ref la), .val .null] [(.ref la)])) rfl (hb hby own_d_prog_75_method_1_85) (n := 28) (by decide) (by decide) (by decide) (by decide)
  have K13 : Keep h0 h13 [a] := K11.ext E13
  have O13 := own_ext O11 E13
  have R13 := R11.trans CC13
  refine own_go (T13.setTop (mkF m 87 #[.val (.ref a), .val (.ref x1), .val (.ref o), .val .null, .val (.ref ci), .val (.ref nm), .val .null, .val (.ref la), .val .null] [(.ref a13), (.ref la)])) (fun t_ k_ => st13 _ k_) ?_
  have Fz14 := (((((Xl.ext E2).ext E4).ext E9).ext E11).ext E13)
  have Fz15 := (((((Fm.ext E2).ext E4).ext E9).ext E11).ext E13)
  have Fz16 := (((((Fs.ext E2).ext E4).ext E9).ext E11).ext E13)
  obtain ⟨_, _, ⟨T17, Lu17, ku17, nu17⟩, -, X17, ⟨Lc17, hQ17, lu17, yu17, zu17⟩, st17⟩ := Jvm.LawKit.callS X13 hx (y := (⟨"com/example/trailcaster/trailcaster/model/Checks", "list", "(Ljava/util/List;Ljava/lang/String;)Ljava/util/List;"⟩ : MethodName)) hown (mvT hZ (hw _ (List.mem_of_getElem? (i := 103) rfl))) (mvT hZ (hw _ (List.mem_of_getElem? (i := 104) rfl))) (mvT hZ (hw _ (List.mem_of_getElem? (i := 27) rfl))) (mvT hZ (hw _ (List.mem_of_getElem? (i := 105) rfl))) (by decide) (backOf (W := 0) (rm_ls l Z a0 hw [] (la) (a13) (cs0) (a_EM) (a_DF) (m_A) (m_L) (m_R) h13 O13 w Fz14 Fz15 Fz16) hZ (hw _ (List.mem_of_getElem? (i := 105) rfl)) (hw _ (List.mem_of_getElem? (i := 27) rfl)) (by decide) (by decide)) (g := (mkF m 87 #[.val (.ref a), .val (.ref x1), .val (.ref o), .val .null, .val (.ref ci), .val (.ref nm), .val .null, .val (.ref la), .val .null] [(.ref a13), (.ref la)])) rfl (by rw [hml]; rfl) (argsL := [(.ref la), (.ref a13)]) (rest := []) (lenOf own_pd11 rfl) rfl (by show 2 * 0 + _ ≤ _; exact Nat.le_of_eq rfl) (hb hby own_d_prog_75_method_1_87) (fun _ _ => ⟨rfl, e13, (by decide : 10 + 3 ≤ _), (by decide : 176 + 9 ≤ _)⟩)
  dsimp only [Pt.U, Pt.locs, Pt.cells, Pt.slots] at X17 lu17 yu17 zu17 st17 hQ17
  subst lu17 yu17 zu17
  obtain ⟨r17, rfl, N17q, K17q⟩ := hQ17
  have N17 := Fr.app N12 N17q
  have O17 := own_extK O13 K17q all0
  have KK17 : Keep h0 T17.heap [a] := K13.trans K17q all0
  have R17 := R13.trans (CHr.keep K17q all0 R13.1)
  refine own_go (T17.setTop (mkF m 90 #[.val (.ref a), .val (.ref x1), .val (.ref o), .val .null, .val (.ref ci), .val (.ref nm), .val .null, .val (.ref la), .val .null] [(.ref r17)])) (fun t_ k_ => st17 _ k_) ?_
  refine own_go (T17.setTop (mkF m 92 #[.val (.ref a), .val (.ref x1), .val (.ref o), .val .null, .val (.ref ci), .val (.ref nm), .val .null, .val (.ref r17), .val .null] [])) (fun t_ k_ => XS.astore X17.here hx rfl (hb hby own_d_prog_75_method_1_90) rfl rfl (l' := #[.val (.ref a), .val (.ref x1), .val (.ref o), .val .null, .val (.ref ci), .val (.ref nm), .val .null, .val (.ref r17), .val .null]) rfl k_) ?_
  refine own_go (T17.setTop (mkF m 93 #[.val (.ref a), .val (.ref x1), .val (.ref o), .val .null, .val (.ref ci), .val (.ref nm), .val .null, .val (.ref r17), .val .null] [(.ref a)])) (fun t_ k_ => XS.aloadN X17.here hx rfl (hb hby own_d_prog_75_method_1_92) rfl rfl k_) ?_
  refine own_go (T17.setTop (mkF m 94 #[.val (.ref a), .val (.ref x1), .val (.ref o), .val .null, .val (.ref ci), .val (.ref nm), .val .null, .val (.ref r17), .val .null] [(.ref x1), (.ref a)])) (fun t_ k_ => XS.aloadN X17.here hx rfl (hb hby own_d_prog_75_method_1_93) rfl rfl k_) ?_
  have Fz18 := ((((((X.ext E2).ext E4).ext E9).ext E11).ext E13).keep K17q)
  have Fz19 := ((((((F0.ext E2).ext E4).ext E9).ext E11).ext E13).keep K17q nin0)
  obtain ⟨T20, h20, X20, e20, W20, st20⟩ := putF X17 hx hZ hown (host := "") (Or.inl (hw _ (List.mem_of_getElem? (i := 200) rfl))) Via.refl rfl Fz19 Fz18 (Or.inr ⟨(hw _ (List.mem_of_getElem? (i := 201) rfl)), rfl, hnm⟩) (hw _ (List.mem_of_getElem? (i := 76) rfl)) (ty := (.object "java/lang/String")) (by decide) rfl rfl (g := (mkF m 94 #[.val (.ref a), .val (.ref x1), .val (.ref o), .val .null, .val (.ref ci), .val (.ref nm), .val .null, .val (.ref r17), .val .null] [(.ref x1), (.ref a)])) rfl rfl (hb hby own_d_prog_75_method_1_94)
  have Fw20 := Fz19.same W20
  have Fz21 := (Safe.keep K17q all0 R13.1 (CC13.safe ((((X.ext E2).ext E4).ext E9).ext E11).lt (CC11.safe (((X.ext E2).ext E4).ext E9).lt (CC9.safe ((X.ext E2).ext E4).lt (CC4.safe (X.ext E2).lt (CC2.safe X.lt Sa))))))
  have R20 := R17.trans (CHr.wr W20 Fz21 R17.1)
  have K20 : Keep h0 h20 [a] := KK17.wr W20 (Or.inl (List.mem_of_getElem? (i := 0) rfl))
  have N20 := Fr.snoc X20 N17 ga
  have O20 := own_extW O17 W20 ga
  refine own_go (T20.setTop (mkF m 97 #[.val (.ref a), .val (.ref x1), .val (.ref o), .val .null, .val (.ref ci), .val (.ref nm), .val .null, .val (.ref r17), .val .null] [])) (fun t_ k_ => st20 _ k_) ?_
  refine own_go (T20.setTop (mkF m 98 #[.val (.ref a), .val (.ref x1), .val (.ref o), .val .null, .val (.ref ci), .val (.ref nm), .val .null, .val (.ref r17), .val .null] [(.ref a)])) (fun t_ k_ => XS.aloadN X20.here hx rfl (hb hby own_d_prog_75_method_1_97) rfl rfl k_) ?_
  refine own_go (T20.setTop (mkF m 99 #[.val (.ref a), .val (.ref x1), .val (.ref o), .val .null, .val (.ref ci), .val (.ref nm), .val .null, .val (.ref r17), .val .null] [(.ref o), (.ref a)])) (fun t_ k_ => XS.aloadN X20.here hx rfl (hb hby own_d_prog_75_method_1_98) rfl rfl k_) ?_
  have Fz22 := (Fz18.wr W20)
  have Fz23 := (((((((F1.ext E2).ext E4).ext E9).ext E11).ext E13).keep K17q nin0).other W20 (Or.inr (slot_ne (a0 := a0) (Or.inr (hw _ (List.mem_of_getElem? (i := 203) rfl))) (Or.inr (hw _ (List.mem_of_getElem? (i := 201) rfl))) (by decide) (t := (.object "java/lang/String")) (t' := (.object "java/lang/String")) (by decide) (by decide))))
  obtain ⟨T24, h24, X24, e24, W24, st24⟩ := putF X20 hx hZ hown (host := "") (Or.inl (hw _ (List.mem_of_getElem? (i := 202) rfl))) Via.refl e20 Fz23 Fz22 (Or.inr ⟨(hw _ (List.mem_of_getElem? (i := 203) rfl)), rfl, hnm⟩) (hw _ (List.mem_of_getElem? (i := 76) rfl)) (ty := (.object "java/lang/String")) (by decide) rfl rfl (g := (mkF m 99 #[.val (.ref a), .val (.ref x1), .val (.ref o), .val .null, .val (.ref ci), .val (.ref nm), .val .null, .val (.ref r17), .val .null] [(.ref o), (.ref a)])) rfl rfl (hb hby own_d_prog_75_method_1_99)
  have Fw24 := Fz23.same W24
  have Fz25 := (Safe.wr W20 Fz21 R17.1 Fz21)
  have R24 := R20.trans (CHr.wr W24 Fz25 R20.1)
  have K24 : Keep h0 h24 [a] := K20.wr W24 (Or.inl (List.mem_of_getElem? (i := 0) rfl))
  have N24 := Fr.snoc X24 N20 ga
  have O24 := own_extW O20 W24 ga
  refine own_go (T24.setTop (mkF m 102 #[.val (.ref a), .val (.ref x1), .val (.ref o), .val .null, .val (.ref ci), .val (.ref nm), .val .null, .val (.ref r17), .val .null] [])) (fun t_ k_ => st24 _ k_) ?_
  refine own_go (T24.setTop (mkF m 103 #[.val (.ref a), .val (.ref x1), .val (.ref o), .val .null, .val (.ref ci), .val (.ref nm), .val .null, .val (.ref r17), .val .null] [(.ref a)])) (fun t_ k_ => XS.aloadN X24.here hx rfl (hb hby own_d_prog_75_method_1_102) rfl rfl k_) ?_
  refine own_go (T24.setTop (mkF m 104 #[.val (.ref a), .val (.ref x1), .val (.ref o), .val .null, .val (.ref ci), .val (.ref nm), .val .null, .val (.ref r17), .val .null] [.null, (.ref a)])) (fun t_ k_ => XS.aloadN X24.here hx rfl (hb hby own_d_prog_75_method_1_103) rfl rfl k_) ?_
  have Fz26 := (Fz22.wr W24)
  have Fz27 := ((((((((F2.ext E2).ext E4).ext E9).ext E11).ext E13).keep K17q nin0).other W20 (Or.inr (slot_ne (a0 := a0) (Or.inr (hw _ (List.mem_of_getElem? (i := 205) rfl))) (Or.inr (hw _ (List.mem_of_getElem? (i := 201) rfl))) (by decide) (t := (.object "java/lang/String")) (t' := (.object "java/lang/String")) (by decide) (by decide)))).other W24 (Or.inr (slot_ne (a0 := a0) (Or.inr (hw _ (List.mem_of_getElem? (i := 205) rfl))) (Or.inr (hw _ (List.mem_of_getElem? (i := 203) rfl))) (by decide) (t := (.object "java/lang/String")) (t' := (.object "java/lang/String")) (by decide) (by decide))))
  obtain ⟨T28, h28, X28, e28, W28, st28⟩ := putF X24 hx hZ hown (host := "") (Or.inl (hw _ (List.mem_of_getElem? (i := 204) rfl))) Via.refl e24 Fz27 Fz26 (Or.inr ⟨(hw _ (List.mem_of_getElem? (i := 205) rfl)), rfl, hnm⟩) (hw _ (List.mem_of_getElem? (i := 76) rfl)) (ty := (.object "java/lang/String")) (by decide) rfl rfl (g := (mkF m 104 #[.val (.ref a), .val (.ref x1), .val (.ref o), .val .null, .val (.ref ci), .val (.ref nm), .val .null, .val (.ref r17), .val .null] [.null, (.ref a)])) rfl rfl (hb hby own_d_prog_75_method_1_104)
  have Fw28 := Fz27.same W28
  have Fz29 := (Safe.wr W24 Fz25 R20.1 Fz25)
  have R28 := R24.trans (CHr.wr W28 Fz29 R24.1)
  have K28 : Keep h0 h28 [a] := K24.wr W28 (Or.inl (List.mem_of_getElem? (i := 0) rfl))
  have N28 := Fr.snoc X28 N24 ga
  have O28 := own_extW O24 W28 ga
  refine own_go (T28.setTop (mkF m 107 #[.val (.ref a), .val (.ref x1), .val (.ref o), .val .null, .val (.ref ci), .val (.ref nm), .val .null, .val (.ref r17), .val .null] [])) (fun t_ k_ => st28 _ k_) ?_
  refine own_go (T28.setTop (mkF m 108 #[.val (.ref a), .val (.ref x1), .val (.ref o), .val .null, .val (.ref ci), .val (.ref nm), .val .null, .val (.ref r17), .val .null] [(.ref a)])) (fun t_ k_ => XS.aloadN X28.here hx rfl (hb hby own_d_prog_75_method_1_107) rfl rfl k_) ?_
  refine own_go (T28.setTop (mkF m 110 #[.val (.ref a), .val (.ref x1), .val (.ref o), .val .null, .val (.ref ci), .val (.ref nm), .val .null, .val (.ref r17), .val .null] [(.ref ci), (.ref a)])) (fun t_ k_ => XS.aload X28.here hx rfl (hb hby own_d_prog_75_method_1_108) rfl rfl k_) ?_
  have Fz30 := (Fz26.wr W28)
  have Fz31 := (((((((((F3.ext E2).ext E4).ext E9).ext E11).ext E13).keep K17q nin0).other W20 (Or.inr (slot_ne (a0 := a0) (Or.inr (hw _ (List.mem_of_getElem? (i := 207) rfl))) (Or.inr (hw _ (List.mem_of_getElem? (i := 201) rfl))) (by decide) (t := (.object "com/example/trailcaster/trailcaster/model/CodedValue")) (t' := (.object "java/lang/String")) (by decide) (by decide)))).other W24 (Or.inr (slot_ne (a0 := a0) (Or.inr (hw _ (List.mem_of_getElem? (i := 207) rfl))) (Or.inr (hw _ (List.mem_of_getElem? (i := 203) rfl))) (by decide) (t := (.object "com/example/trailcaster/trailcaster/model/CodedValue")) (t' := (.object "java/lang/String")) (by decide) (by decide)))).other W28 (Or.inr (slot_ne (a0 := a0) (Or.inr (hw _ (List.mem_of_getElem? (i := 207) rfl))) (Or.inr (hw _ (List.mem_of_getElem? (i := 205) rfl))) (by decide) (t := (.object "com/example/trailcaster/trailcaster/model/CodedValue")) (t' := (.object "java/lang/String")) (by decide) (by decide))))
  obtain ⟨T32, h32, X32, e32, W32, st32⟩ := putF X28 hx hZ hown (host := "") (Or.inl (hw _ (List.mem_of_getElem? (i := 206) rfl))) Via.refl e28 Fz31 Fz30 (Or.inr ⟨(hw _ (List.mem_of_getElem? (i := 207) rfl)), rfl, hnm⟩) (hw _ (List.mem_of_getElem? (i := 76) rfl)) (ty := (.object "com/example/trailcaster/trailcaster/model/CodedValue")) (by decide) rfl rfl (g := (mkF m 110 #[.val (.ref a), .val (.ref x1), .val (.ref o), .val .null, .val (.ref ci), .val (.ref nm), .val .null, .val (.ref r17), .val .null] [(.ref ci), (.ref a)])) rfl rfl (hb hby own_d_prog_75_method_1_110)
  have Fw32 := Fz31.same W32
  have Fz33 := (Safe.wr W28 Fz29 R24.1 Fz29)
  have R32 := R28.trans (CHr.wr W32 Fz33 R28.1)
  have K32 : Keep h0 h32 [a] := K28.wr W32 (Or.inl (List.mem_of_getElem? (i := 0) rfl))
  have N32 := Fr.snoc X32 N28 ga
  have O32 := own_extW O28 W32 ga
  refine own_go (T32.setTop (mkF m 113 #[.val (.ref a), .val (.ref x1), .val (.ref o), .val .null, .val (.ref ci), .val (.ref nm), .val .null, .val (.ref r17), .val .null] [])) (fun t_ k_ => st32 _ k_) ?_
  refine own_go (T32.setTop (mkF m 114 #[.val (.ref a), .val (.ref x1), .val (.ref o), .val .null, .val (.ref ci), .val (.ref nm), .val .null, .val (.ref r17), .val .null] [(.ref a)])) (fun t_ k_ => XS.aloadN X32.here hx rfl (hb hby own_d_prog_75_method_1_113) rfl rfl k_) ?_
  refine own_go (T32.setTop (mkF m 116 #[.val (.ref a), .val (.ref x1), .val (.ref o), .val .null, .val (.ref ci), .val (.ref nm), .val .null, .val (.ref r17), .val .null] [(.ref nm), (.ref a)])) (fun t_ k_ => XS.aload X32.here hx rfl (hb hby own_d_prog_75_method_1_114) rfl rfl k_) ?_
  have Fz34 := (Fz30.wr W32)
  have Fz35 := ((((((((((F4.ext E2).ext E4).ext E9).ext E11).ext E13).keep K17q nin0).other W20 (Or.inr (slot_ne (a0 := a0) (Or.inr (hw _ (List.mem_of_getElem? (i := 209) rfl))) (Or.inr (hw _ (List.mem_of_getElem? (i := 201) rfl))) (by decide) (t := (.object "java/lang/String")) (t' := (.object "java/lang/String")) (by decide) (by decide)))).other W24 (Or.inr (slot_ne (a0 := a0) (Or.inr (hw _ (List.mem_of_getElem? (i := 209) rfl))) (Or.inr (hw _ (List.mem_of_getElem? (i := 203) rfl))) (by decide) (t := (.object "java/lang/String")) (t' := (.object "java/lang/String")) (by decide) (by decide)))).other W28 (Or.inr (slot_ne (a0 := a0) (Or.inr (hw _ (List.mem_of_getElem? (i := 209) rfl))) (Or.inr (hw _ (List.mem_of_getElem? (i := 205) rfl))) (by decide) (t := (.object "java/lang/String")) (t' := (.object "java/lang/String")) (by decide) (by decide)))).other W32 (Or.inr (slot_ne (a0 := a0) (Or.inr (hw _ (List.mem_of_getElem? (i := 209) rfl))) (Or.inr (hw _ (List.mem_of_getElem? (i := 207) rfl))) (by decide) (t := (.object "java/lang/String")) (t' := (.object "com/example/trailcaster/trailcaster/model/CodedValue")) (by decide) (by decide))))
  obtain ⟨T36, h36, X36, e36, W36, st36⟩ := putF X32 hx hZ hown (host := "") (Or.inl (hw _ (List.mem_of_getElem? (i := 208) rfl))) Via.refl e32 Fz35 Fz34 (Or.inr ⟨(hw _ (List.mem_of_getElem? (i := 209) rfl)), rfl, hnm⟩) (hw _ (List.mem_of_getElem? (i := 76) rfl)) (ty := (.object "java/lang/String")) (by decide) rfl rfl (g := (mkF m 116 #[.val (.ref a), .val (.ref x1), .val (.ref o), .val .null, .val (.ref ci), .val (.ref nm), .val .null, .val (.ref r17), .val .null] [(.ref nm), (.ref a)])) rfl rfl (hb hby own_d_prog_75_method_1_116)
  have Fw36 := Fz35.same W36
  have Fz37 := (Safe.wr W32 Fz33 R28.1 Fz33)
  have R36 := R32.trans (CHr.wr W36 Fz37 R32.1)
  have K36 : Keep h0 h36 [a] := K32.wr W36 (Or.inl (List.mem_of_getElem? (i := 0) rfl))
  have N36 := Fr.snoc X36 N32 ga
  have O36 := own_extW O32 W36 ga
  refine own_go (T36.setTop (mkF m 119 #[.val (.ref a), .val (.ref x1), .val (.ref o), .val .null, .val (.ref ci), .val (.ref nm), .val .null, .val (.ref r17), .val .null] [])) (fun t_ k_ => st36 _ k_) ?_
  refine own_go (T36.setTop (mkF m 120 #[.val (.ref a), .val (.ref x1), .val (.ref o), .val .null, .val (.ref ci), .val (.ref nm), .val .null, .val (.ref r17), .val .null] [(.ref a)])) (fun t_ k_ => XS.aloadN X36.here hx rfl (hb hby own_d_prog_75_method_1_119) rfl rfl k_) ?_
  refine own_go (T36.setTop (mkF m 122 #[.val (.ref a), .val (.ref x1), .val (.ref o), .val .null, .val (.ref ci), .val (.ref nm), .val .null, .val (.ref r17), .val .null] [.null, (.ref a)])) (fun t_ k_ => XS.aload X36.here hx rfl (hb hby own_d_prog_75_method_1_120) rfl rfl k_) ?_
  have Fz38 := (Fz34.wr W36)
  have Fz39 := (((((((((((F5.ext E2).ext E4).ext E9).ext E11).ext E13).keep K17q nin0).other W20 (Or.inr (slot_ne (a0 := a0) (Or.inr (hw _ (List.mem_of_getElem? (i := 211) rfl))) (Or.inr (hw _ (List.mem_of_getElem? (i := 201) rfl))) (by decide) (t := (.array .byte)) (t' := (.object "java/lang/String")) (by decide) (by decide)))).other W24 (Or.inr (slot_ne (a0 := a0) (Or.inr (hw _ (List.mem_of_getElem? (i := 211) rfl))) (Or.inr (hw _ (List.mem_of_getElem? (i := 203) rfl))) (by decide) (t := (.array .byte)) (t' := (.object "java/lang/String")) (by decide) (by decide)))).other W28 (Or.inr (slot_ne (a0 := a0) (Or.inr (hw _ (List.mem_of_getElem? (i := 211) rfl))) (Or.inr (hw _ (List.mem_of_getElem? (i := 205) rfl))) (by decide) (t := (.array .byte)) (t' := (.object "java/lang/String")) (by decide) (by decide)))).other W32 (Or.inr (slot_ne (a0 := a0) (Or.inr (hw _ (List.mem_of_getElem? (i := 211) rfl))) (Or.inr (hw _ (List.mem_of_getElem? (i := 207) rfl))) (by decide) (t := (.array .byte)) (t' := (.object "com/example/trailcaster/trailcaster/model/CodedValue")) (by decide) (by decide)))).other W36 (Or.inr (slot_ne (a0 := a0) (Or.inr (hw _ (List.mem_of_getElem? (i := 211) rfl))) (Or.inr (hw _ (List.mem_of_getElem? (i := 209) rfl))) (by decide) (t := (.array .byte)) (t' := (.object "java/lang/String")) (by decide) (by decide))))
  obtain ⟨T40, h40, X40, e40, W40, st40⟩ := putF X36 hx hZ hown (host := "") (Or.inl (hw _ (List.mem_of_getElem? (i := 210) rfl))) Via.refl e36 Fz39 Fz38 (Or.inr ⟨(hw _ (List.mem_of_getElem? (i := 211) rfl)), rfl, hnm⟩) (hw _ (List.mem_of_getElem? (i := 76) rfl)) (ty := (.array .byte)) (by decide) rfl rfl (g := (mkF m 122 #[.val (.ref a), .val (.ref x1), .val (.ref o), .val .null, .val (.ref ci), .val (.ref nm), .val .null, .val (.ref r17), .val .null] [.null, (.ref a)])) rfl rfl (hb hby own_d_prog_75_method_1_122)
  have Fw40 := Fz39.same W40
  have Fz41 := (Safe.wr W36 Fz37 R32.1 Fz37)
  have R40 := R36.trans (CHr.wr W40 Fz41 R36.1)
  have K40 : Keep h0 h40 [a] := K36.wr W40 (Or.inl (List.mem_of_getElem? (i := 0) rfl))
  have N40 := Fr.snoc X40 N36 ga
  have O40 := own_extW O36 W40 ga
  refine own_go (T40.setTop (mkF m 125 #[.val (.ref a), .val (.ref x1), .val (.ref o), .val .null, .val (.ref ci), .val (.ref nm), .val .null, .val (.ref r17), .val .null] [])) (fun t_ k_ => st40 _ k_) ?_
  refine own_go (T40.setTop (mkF m 126 #[.val (.ref a), .val (.ref x1), .val (.ref o), .val .null, .val (.ref ci), .val (.ref nm), .val .null, .val (.ref r17), .val .null] [(.ref a)])) (fun t_ k_ => XS.aloadN X40.here hx rfl (hb hby own_d_prog_75_method_1_125) rfl rfl k_) ?_
  refine own_go (T40.setTop (mkF m 128 #[.val (.ref a), .val (.ref x1), .val (.ref o), .val .null, .val (.ref ci), .val (.ref nm), .val .null, .val (.ref r17), .val .null] [(.ref r17), (.ref a)])) (fun t_ k_ => XS.aload X40.here hx rfl (hb hby own_d_prog_75_method_1_126) rfl rfl k_) ?_
  have Fz42 := (Fz38.wr W40)
  have Fz43 := ((((((((((((F6.ext E2).ext E4).ext E9).ext E11).ext E13).keep K17q nin0).other W20 (Or.inr (slot_ne (a0 := a0) (Or.inr (hw _ (List.mem_of_getElem? (i := 213) rfl))) (Or.inr (hw _ (List.mem_of_getElem? (i := 201) rfl))) (by decide) (t := (.object "java/util/List")) (t' := (.object "java/lang/String")) (by decide) (by decide)))).other W24 (Or.inr (slot_ne (a0 := a0) (Or.inr (hw _ (List.mem_of_getElem? (i := 213) rfl))) (Or.inr (hw _ (List.mem_of_getElem? (i := 203) rfl))) (by decide) (t := (.object "java/util/List")) (t' := (.object "java/lang/String")) (by decide) (by decide)))).other W28 (Or.inr (slot_ne (a0 := a0) (Or.inr (hw _ (List.mem_of_getElem? (i := 213) rfl))) (Or.inr (hw _ (List.mem_of_getElem? (i := 205) rfl))) (by decide) (t := (.object "java/util/List")) (t' := (.object "java/lang/String")) (by decide) (by decide)))).other W32 (Or.inr (slot_ne (a0 := a0) (Or.inr (hw _ (List.mem_of_getElem? (i := 213) rfl))) (Or.inr (hw _ (List.mem_of_getElem? (i := 207) rfl))) (by decide) (t := (.object "java/util/List")) (t' := (.object "com/example/trailcaster/trailcaster/model/CodedValue")) (by decide) (by decide)))).other W36 (Or.inr (slot_ne (a0 := a0) (Or.inr (hw _ (List.mem_of_getElem? (i := 213) rfl))) (Or.inr (hw _ (List.mem_of_getElem? (i := 209) rfl))) (by decide) (t := (.object "java/util/List")) (t' := (.object "java/lang/String")) (by decide) (by decide)))).other W40 (Or.inr (slot_ne (a0 := a0) (Or.inr (hw _ (List.mem_of_getElem? (i := 213) rfl))) (Or.inr (hw _ (List.mem_of_getElem? (i := 211) rfl))) (by decide) (t := (.object "java/util/List")) (t' := (.array .byte)) (by decide) (by decide))))
  obtain ⟨T44, h44, X44, e44, W44, st44⟩ := putF X40 hx hZ hown (host := "") (Or.inl (hw _ (List.mem_of_getElem? (i := 212) rfl))) Via.refl e40 Fz43 Fz42 (Or.inr ⟨(hw _ (List.mem_of_getElem? (i := 213) rfl)), rfl, hnm⟩) (hw _ (List.mem_of_getElem? (i := 76) rfl)) (ty := (.object "java/util/List")) (by decide) rfl rfl (g := (mkF m 128 #[.val (.ref a), .val (.ref x1), .val (.ref o), .val .null, .val (.ref ci), .val (.ref nm), .val .null, .val (.ref r17), .val .null] [(.ref r17), (.ref a)])) rfl rfl (hb hby own_d_prog_75_method_1_128)
  have Fw44 := Fz43.same W44
  have Fz45 := (Safe.wr W40 Fz41 R36.1 Fz41)
  have R44 := R40.trans (CHr.wr W44 Fz45 R40.1)
  have K44 : Keep h0 h44 [a] := K40.wr W44 (Or.inl (List.mem_of_getElem? (i := 0) rfl))
  have N44 := Fr.snoc X44 N40 ga
  have O44 := own_extW O40 W44 ga
  refine own_go (T44.setTop (mkF m 131 #[.val (.ref a), .val (.ref x1), .val (.ref o), .val .null, .val (.ref ci), .val (.ref nm), .val .null, .val (.ref r17), .val .null] [])) (fun t_ k_ => st44 _ k_) ?_
  refine own_go (T44.setTop (mkF m 132 #[.val (.ref a), .val (.ref x1), .val (.ref o), .val .null, .val (.ref ci), .val (.ref nm), .val .null, .val (.ref r17), .val .null] [(.ref a)])) (fun t_ k_ => XS.aloadN X44.here hx rfl (hb hby own_d_prog_75_method_1_131) rfl rfl k_) ?_
  refine own_go (T44.setTop (mkF m 134 #[.val (.ref a), .val (.ref x1), .val (.ref o), .val .null, .val (.ref ci), .val (.ref nm), .val .null, .val (.ref r17), .val .null] [.null, (.ref a)])) (fun t_ k_ => XS.aload X44.here hx rfl (hb hby own_d_prog_75_method_1_132) rfl rfl k_) ?_
  have Fz46 := (Fz42.wr W44)
  have Fz47 := (((((((((((((F7.ext E2).ext E4).ext E9).ext E11).ext E13).keep K17q nin0).other W20 (Or.inr (slot_ne (a0 := a0) (Or.inr (hw _ (List.mem_of_getElem? (i := 215) rfl))) (Or.inr (hw _ (List.mem_of_getElem? (i := 201) rfl))) (by decide) (t := (.object "com/example/trailcaster/trailcaster/model/DicomObjectDescription")) (t' := (.object "java/lang/String")) (by decide) (by decide)))).other W24 (Or.inr (slot_ne (a0 := a0) (Or.inr (hw _ (List.mem_of_getElem? (i := 215) rfl))) (Or.inr (hw _ (List.mem_of_getElem? (i := 203) rfl))) (by decide) (t := (.object "com/example/trailcaster/trailcaster/model/DicomObjectDescription")) (t' := (.object "java/lang/String")) (by decide) (by decide)))).other W28 (Or.inr (slot_ne (a0 := a0) (Or.inr (hw _ (List.mem_of_getElem? (i := 215) rfl))) (Or.inr (hw _ (List.mem_of_getElem? (i := 205) rfl))) (by decide) (t := (.object "com/example/trailcaster/trailcaster/model/DicomObjectDescription")) (t' := (.object "java/lang/String")) (by decide) (by decide)))).other W32 (Or.inr (slot_ne (a0 := a0) (Or.inr (hw _ (List.mem_of_getElem? (i := 215) rfl))) (Or.inr (hw _ (List.mem_of_getElem? (i := 207) rfl))) (by decide) (t := (.object "com/example/trailcaster/trailcaster/model/DicomObjectDescription")) (t' := (.object "com/example/trailcaster/trailcaster/model/CodedValue")) (by decide) (by decide)))).other W36 (Or.inr (slot_ne (a0 := a0) (Or.inr (hw _ (List.mem_of_getElem? (i := 215) rfl))) (Or.inr (hw _ (List.mem_of_getElem? (i := 209) rfl))) (by decide) (t := (.object "com/example/trailcaster/trailcaster/model/DicomObjectDescription")) (t' := (.object "java/lang/String")) (by decide) (by decide)))).other W40 (Or.inr (slot_ne (a0 := a0) (Or.inr (hw _ (List.mem_of_getElem? (i := 215) rfl))) (Or.inr (hw _ (List.mem_of_getElem? (i := 211) rfl))) (by decide) (t := (.object "com/example/trailcaster/trailcaster/model/DicomObjectDescription")) (t' := (.array .byte)) (by decide) (by decide)))).other W44 (Or.inr (slot_ne (a0 := a0) (Or.inr (hw _ (List.mem_of_getElem? (i := 215) rfl))) (Or.inr (hw _ (List.mem_of_getElem? (i := 213) rfl))) (by decide) (t := (.object "com/example/trailcaster/trailcaster/model/DicomObjectDescription")) (t' := (.object "java/util/List")) (by decide) (by decide))))
  obtain ⟨T48, h48, X48, e48, W48, st48⟩ := putF X44 hx hZ hown (host := "") (Or.inl (hw _ (List.mem_of_getElem? (i := 214) rfl))) Via.refl e44 Fz47 Fz46 (Or.inr ⟨(hw _ (List.mem_of_getElem? (i := 215) rfl)), rfl, hnm⟩) (hw _ (List.mem_of_getElem? (i := 76) rfl)) (ty := (.object "com/example/trailcaster/trailcaster/model/DicomObjectDescription")) (by decide) rfl rfl (g := (mkF m 134 #[.val (.ref a), .val (.ref x1), .val (.ref o), .val .null, .val (.ref ci), .val (.ref nm), .val .null, .val (.ref r17), .val .null] [.null, (.ref a)])) rfl rfl (hb hby own_d_prog_75_method_1_134)
  have Fw48 := Fz47.same W48
  have Fz49 := (Safe.wr W44 Fz45 R40.1 Fz45)
  have R48 := R44.trans (CHr.wr W48 Fz49 R44.1)
  have K48 : Keep h0 h48 [a] := K44.wr W48 (Or.inl (List.mem_of_getElem? (i := 0) rfl))
  have N48 := Fr.snoc X48 N44 ga
  have O48 := own_extW O44 W48 ga
  refine own_go (T48.setTop (mkF m 137 #[.val (.ref a), .val (.ref x1), .val (.ref o), .val .null, .val (.ref ci), .val (.ref nm), .val .null, .val (.ref r17), .val .null] [])) (fun t_ k_ => st48 _ k_) ?_
  obtain ⟨fs, hr, hrun, hended, hRW⟩ := X48.leaveW hS (by rw [show T48.heap = h48 from e48]; exact (Nat.le_trans (Nat.le_trans (Nat.le_trans (Nat.le_trans (Nat.le_trans (Nat.le_trans (Nat.le_trans (Nat.le_trans (Nat.le_trans hk K17q.1) (Keep.of_wr W20).1) (Keep.of_wr W24).1) (Keep.of_wr W28).1) (Keep.of_wr W32).1) (Keep.of_wr W36).1) (Keep.of_wr W40).1) (Keep.of_wr W44).1) (Keep.of_wr W48).1)) (v := none) (fun _ => rfl)
  refine ⟨_, _, X48.returnOut hx Bd.returns (hb hby own_d_prog_75_method_1_137) hr, hrun, hended, _, _, rfl, ?_, (by rw [hh]; show CHr Z consts_1 s.vm h0 T48.vm T48.heap; rw [show T48.heap = h48 from e48]; exact R48.trans (CHv.at X48 hZ hEW R48.1)), hRW.1, hRW.2.1, hRW.2.2.1, hRW.2.2.2.mono (by decide) (by decide)⟩
  show Q_poA Z a x1 ci la o t1 kb vs nm cs0 a_EM a_DF m_A m_L m_R h0 _ T48.heap _
  have Fz50 := (Fz46.wr W48)
  have Fz51 := ((Fw40.other W44 (Or.inr (slot_ne (a0 := a0) (Or.inr (hw _ (List.mem_of_getElem? (i := 211) rfl))) (Or.inr (hw _ (List.mem_of_getElem? (i := 213) rfl))) (by decide) (t := (.array .byte)) (t' := (.object "java/util/List")) (by decide) (by decide)))).other W48 (Or.inr (slot_ne (a0 := a0) (Or.inr (hw _ (List.mem_of_getElem? (i := 211) rfl))) (Or.inr (hw _ (List.mem_of_getElem? (i := 215) rfl))) (by decide) (t := (.array .byte)) (t' := (.object "com/example/trailcaster/trailcaster/model/DicomObjectDescription")) (by decide) (by decide))))
  rw [show T48.heap = h48 from e48]
  exact ⟨rfl, N48, K48, Fz50, Fz51⟩
theorem own_ef_poB (m : MethodId) (a : Addr) (x1 : Addr) (o : Addr) (ci : Addr) (b : Addr) (la : Addr) : entryFrame m #[(.ref a), (.ref x1), (.ref o), .null, (.ref ci), .null, (.ref b), (.ref la), .null] 9 = mkF m 0 #[.val (.ref a), .val (.ref x1), .val (.ref o), .val .null, .val (.ref ci), .val .null, .val (.ref b), .val (.ref la), .val .null] [] := by first | (simp [entryFrame, mkF, argsToLocals, Value.category]; done) | rfl
theorem own_d_prog_75_method_1_38 : decode prog_75_method_1_code 38 = .ok (.iconst 1, 1) := by decide +kernel
theorem own_d_prog_75_method_1_39 : decode prog_75_method_1_code 39 = .ok (.goto 4, 3) := by decide +kernel
theorem own_d_prog_75_method_1_52 : decode prog_75_method_1_code 52 = .ok (.iconst 0, 1) := by decide +kernel
theorem own_d_prog_75_method_1_73 : decode prog_75_method_1_code 73 = .ok (.aload 6, 2) := by decide +kernel
theorem own_d_prog_75_method_1_75 : decode prog_75_method_1_code 75 = .ok (.invokevirtual 36, 3) := by decide +kernel
theorem own_d_prog_75_method_1_78 : decode prog_75_method_1_code 78 = .ok (.checkcast 37, 3) := by decide +kernel
def Q_poB (Z : State) (a : Addr) (x1 : Addr) (ci : Addr) (la : Addr) (o : Addr) (t1 : Addr) (kb : ClassId) (vs : List Value) (b : Addr) (kq : ClassId) (z : Int32) (qs : List Value) (cs0 : Int32) (a_EM : Addr) (a_DF : Addr) (m_A : Addr) (m_L : Addr) (m_R : Addr) (h0 : Heap) (v_ : Option Value) (h : Heap) (L_ : List Loc) : Prop := ∃ (r : Addr), v_ = none ∧ Fr Z.heap.size L_ ∧ (Keep h0 h [a] ∧ h0.size ≤ r ∧ Exa Z h a "com/example/trailcaster/trailcaster/model/ParticipantObject" ∧ Fld Z h a "com/example/trailcaster/trailcaster/model/ParticipantObject" "query" "[B" (.ref r) ∧ Exa Z h r "[B" ∧ Arv Z h r kq .byte z qs (.int 0))
set_option maxRecDepth 65536 in
set_option maxHeartbeats 40000000 in
theorem rm_poB (l : Launch) (Z : State) (a0 : Array Value) (hw : ∀ d ∈ tables_1, d.before a0 Z = true) (ws : List Jvm.Cond) (a : Addr) (x1 : Addr) (ci : Addr) (la : Addr) (o : Addr) (t1 : Addr) (kb : ClassId) (vs : List Value) (b : Addr) (kq : ClassId) (z : Int32) (qs : List Value) (cs0 : Int32) (a_EM : Addr) (a_DF : Addr) (m_A : Addr) (m_L : Addr) (m_R : Addr) (h0 : Heap) (O : Ext Z.heap h0) (w : own_W Z cs0 a_EM a_DF m_A m_L m_R) (X : Exa Z h0 a "com/example/trailcaster/trailcaster/model/ParticipantObject") (F0 : Fld Z h0 a "com/example/trailcaster/trailcaster/model/ParticipantObject" "id" "Ljava/lang/String;" .null) (F1 : Fld Z h0 a "com/example/trailcaster/trailcaster/model/ParticipantObject" "typeCode" "Ljava/lang/String;" .null) (F2 : Fld Z h0 a "com/example/trailcaster/trailcaster/model/ParticipantObject" "typeCodeRole" "Ljava/lang/String;" .null) (F3 : Fld Z h0 a "com/example/trailcaster/trailcaster/model/ParticipantObject" "idTypeCode" "Lcom/example/trailcaster/trailcaster/model/CodedValue;" .null) (F4 : Fld Z h0 a "com/example/trailcaster/trailcaster/model/ParticipantObject" "name" "Ljava/lang/String;" .null) (F5 : Fld Z h0 a "com/example/trailcaster/trailcaster/model/ParticipantObject" "query" "[B" .null) (F6 : Fld Z h0 a "com/example/trailcaster/trailcaster/model/ParticipantObject" "details" "Ljava/util/List;" .null) (F7 : Fld Z h0 a "com/example/trailcaster/trailcaster/model/ParticipantObject" "description" "Lcom/example/trailcaster/trailcaster/model/DicomObjectDescription;" .null) (ga : Z.heap.size ≤ a) (Xl : Exa Z h0 la "java/util/ArrayList") (Fm : Fld Z h0 la "java/util/AbstractList" "modCount" "I" (.int 0)) (Fs : Fld Z h0 la "java/util/ArrayList" "size" "I" (.int 0)) (Xo : Exa Z h0 o "java/lang/String") (Vo : Fld Z h0 o "java/lang/String" "value" "[B" (.ref t1)) (Ao : Arv Z h0 t1 kb .byte 1 vs (.int 0)) (Xb : Exa Z h0 b "[B") (Ab : Arv Z h0 b kq .byte z qs (.int 0)) (hz : z.toNatClampNeg ≤ 4) :
    MetFree l (⟨"com/example/trailcaster/trailcaster/model/ParticipantObject", "<init>", "(Ljava/lang/String;Ljava/lang/String;Ljava/lang/String;Lcom/example/trailcaster/trailcaster/model/CodedValue;Ljava/lang/String;[BLjava/util/List;Lcom/example/trailcaster/trailcaster/model/DicomObjectDescription;)V"⟩ : MethodName) (head1 (Jvm.Cond.code (⟨"com/example/trailcaster/trailcaster/model/ParticipantObject", "<init>", "(Ljava/lang/String;Ljava/lang/String;Ljava/lang/String;Lcom/example/trailcaster/trailcaster/model/CodedValue;Ljava/lang/String;[BLjava/util/List;Lcom/example/trailcaster/trailcaster/model/DicomObjectDescription;)V"⟩ : MethodName) prog_75_method_1_code 9 none :: ws) ({ frames := 6, cells := 14, slots := 189, locals := 80 } : Room)) (fun a_ U_ => a_ = #[(.ref a), (.ref x1), (.ref o), .null, (.ref ci), .null, (.ref b), (.ref la), .null] ∧ Z.Warmed39 U_.vm ∧ U_.heap = h0 ∧ CHv Z consts_1 U_.vm h0) (fun _ _ _ _ _ => True) (fun _ U_ o_ U2_ => ∃ v_ L_, o_ = .returned v_ ∧ Q_poB Z a x1 ci la o t1 kb vs b kq z qs cs0 a_EM a_DF m_A m_L m_R h0 v_ U2_.heap L_ ∧ CHr Z consts_1 U_.vm U_.heap U2_.vm U2_.heap ∧ ReturnedEndW U_ o_ U2_ L_ ({ frames := 6, cells := 14, slots := 189, locals := 80 } : Room).cells ({ frames := 6, cells := 14, slots := 189, locals := 80 } : Room).slots) := by
  refine MetFree.of_bodySF (plainFor_of_name own_pn12) hisR ?_
  intro p e s m args below meth c s₁ Bd hml0 hP hK
  obtain ⟨rfl, hZ, hh, hCH⟩ := hP
  have hx := Bd.exec
  have hby := Bd.bytes
  have hml : c.maxLocals = 9 := hml0
  have hown : s.vm.findClass "com/example/trailcaster/trailcaster/model/ParticipantObject" = some m.cls := findClass_of_methodNamed Bd.named
  have hnm := (name_of_methodNamed Bd.named Bd.method).1
  have X0 : Stand p l e ({ frames := 6, cells := 14, slots := 189, locals := 80 } : Room) (s.setVm s.vm) m #[(.ref a), (.ref x1), (.ref o), .null, (.ref ci), .null, (.ref b), (.ref la), .null] below meth c s₁ [] 0 0 := Stand.of_body Bd
  have e0 : s₁.heap = h0 := by rw [← hh, Bd.state]; rfl
  have N0 := Fr.nil Z.heap.size
  have hS : s.Since s.vm s.heap.size := (State.WarmedH.refl _).since _
  have hk : s.heap.size ≤ h0.size := Nat.le_of_eq (congrArg Array.size hh)
  have hZ : Z.Warmed39 (s.setVm s.vm).vm := hZ
  have hown : (s.setVm s.vm).vm.findClass "com/example/trailcaster/trailcaster/model/ParticipantObject" = some m.cls := hown
  show own_G p e below (fun o_ s₂ => ∃ v_ L_, o_ = .returned v_ ∧ Q_poB Z a x1 ci la o t1 kb vs b kq z qs cs0 a_EM a_DF m_A m_L m_R h0 v_ s₂.heap L_ ∧ CHr Z consts_1 s.vm s.heap s₂.vm s₂.heap ∧ ReturnedEndW s o_ s₂ L_ ({ frames := 6, cells := 14, slots := 189, locals := 80 } : Room).cells ({ frames := 6, cells := 14, slots := 189, locals := 80 } : Room).slots) (s₁.setTop (entryFrame m #[(.ref a), (.ref x1), (.ref o), .null, (.ref ci), .null, (.ref b), (.ref la), .null] 9))
  refine own_go (s₁.setTop (mkF m 0 #[.val (.ref a), .val (.ref x1), .val (.ref o), .val .null, .val (.ref ci), .val .null, .val (.ref b), .val (.ref la), .val .null] [])) (fun t_ k_ => castTop (own_ef_poB m a x1 o ci b la) k_) ?_
  have R0 := CHr.refl hCH
  have hEW : EW Z a0 consts_1 := own_EW hw
  have w' := w
  obtain ⟨S_CS, n_CS, S_EM, S_DF, M_A, M_L, M_R⟩ := w'
  have Sa : Safe Z consts_1 s.vm h0 a := Safe.exa hZ.alike X (by decide) (by decide)
  refine own_go (s₁.setTop (mkF m 1 #[.val (.ref a), .val (.ref x1), .val (.ref o), .val .null, .val (.ref ci), .val .null, .val (.ref b), .val (.ref la), .val .null] [(.ref a)])) (fun t_ k_ => XS.aloadN X0.here hx rfl (hb hby own_d_prog_75_method_1_0) rfl rfl k_) ?_
  obtain ⟨_, _, ⟨T1, Lu1, ku1, nu1⟩, -, X1, ⟨Lc1, hQ1, lu1, yu1, zu1⟩, st1⟩ := X0.specialBack hx (y := (⟨"java/lang/Record", "<init>", "()V"⟩ : MethodName)) rfl hown (mvT hZ (hw _ (List.mem_of_getElem? (i := 83) rfl))) (mvT hZ (hw _ (List.mem_of_getElem? (i := 17) rfl))) (mvT hZ (hw _ (List.mem_of_getElem? (i := 20) rfl))) (by decide) (backOf (W := 0) (rm_rec l Z a0 hw [] (a) h0 O ) hZ (hw _ (List.mem_of_getElem? (i := 20) rfl)) (hw _ (List.mem_of_getElem? (i := 19) rfl)) (by decide) (by decide)) (g := (mkF m 1 #[.val (.ref a), .val (.ref x1), .val (.ref o), .val .null, .val (.ref ci), .val .null, .val (.ref b), .val (.ref la), .val .null] [(.ref a)])) rfl (by rw [hml]; rfl) (Steps.refl _) (a := a) (argsL := []) (rest := []) (lenOf own_pd2 rfl) rfl (by show 2 * 0 + _ ≤ _; exact Nat.le_of_eq rfl) (hb hby own_d_prog_75_method_1_1) (fun _ _ => ⟨rfl, e0, (by decide : 0 + 0 ≤ _), (by decide : 0 + 0 ≤ _)⟩)
  dsimp only [Pt.U, Pt.locs, Pt.cells, Pt.slots] at X1 lu1 yu1 zu1 st1 hQ1
  subst lu1 yu1 zu1
  obtain ⟨rfl, N1q, e1⟩ := hQ1
  have N1 := Fr.app N0 N1q
  refine own_go (T1.setTop (mkF m 4 #[.val (.ref a), .val (.ref x1), .val (.ref o), .val .null, .val (.ref ci), .val .null, .val (.ref b), .val (.ref la), .val .null] [])) (fun t_ k_ => st1.trans k_) ?_
  refine own_go (T1.setTop (mkF m 5 #[.val (.ref a), .val (.ref x1), .val (.ref o), .val .null, .val (.ref ci), .val .null, .val (.ref b), .val (.ref la), .val .null] [(.ref x1)])) (fun t_ k_ => XS.aloadN X1.here hx rfl (hb hby own_d_prog_75_method_1_4) rfl rfl k_) ?_
  obtain ⟨a2, T2, h2, k2, t2, kb2, X2, e2, E2, hS, hk, hZ, hown, A2, C2, V2, B2, lt2, ltb2, CC2, Li2, ne2, st2⟩ := ldcCH (EL := consts_1) X1 hx hZ hown (hw _ (List.mem_of_getElem? (i := 84) rfl)) (fun d hd => hw d (own_sA d hd)) e1 hS hk hEW (List.mem_of_getElem? (i := 3) rfl) R0.1 (vs := (([105, 100] : List Int32).map (fun c => c.toInt8.toInt32)).map Value.int) (z := 2) (by exact ⟨by decide, by rfl⟩) (by decide) (by rfl) (g := (mkF m 5 #[.val (.ref a), .val (.ref x1), .val (.ref o), .val .null, .val (.ref ci), .val .null, .val (.ref b), .val (.ref la), .val .null] [(.ref x1)])) rfl (hb hby own_d_prog_75_method_1_5) (n := 8) (by decide) (by decide) (by decide) (by decide)
  have K2 : Keep h0 h2 [a] := (Keep.refl h0 [a]).ext E2
  have O2 := own_ext O E2
  have R2 := R0.trans CC2
  refine own_go (T2.setTop (mkF m 7 #[.val (.ref a), .val (.ref x1), .val (.ref o), .val .null, .val (.ref ci), .val .null, .val (.ref b), .val (.ref la), .val .null] [(.ref a2), (.ref x1)])) (fun t_ k_ => st2 _ k_) ?_
  obtain ⟨_, _, ⟨T3, Lu3, ku3, nu3⟩, -, X3, ⟨Lc3, hQ3, lu3, yu3, zu3⟩, st3⟩ := Jvm.LawKit.callS X2 hx (y := (⟨"com/example/trailcaster/trailcaster/model/Checks", "required", "(Ljava/lang/Object;Ljava/lang/String;)Ljava/lang/Object;"⟩ : MethodName)) hown (mvT hZ (hw _ (List.mem_of_getElem? (i := 85) rfl))) (mvT hZ (hw _ (List.mem_of_getElem? (i := 30) rfl))) (mvT hZ (hw _ (List.mem_of_getElem? (i := 27) rfl))) (mvT hZ (hw _ (List.mem_of_getElem? (i := 31) rfl))) (by decide) (backOf (W := 0) (rm_rq l Z a0 hw [] (x1) (a2) h2 O2 ) hZ (hw _ (List.mem_of_getElem? (i := 31) rfl)) (hw _ (List.mem_of_getElem? (i := 27) rfl)) (by decide) (by decide)) (g := (mkF m 7 #[.val (.ref a), .val (.ref x1), .val (.ref o), .val .null, .val (.ref ci), .val .null, .val (.ref b), .val (.ref la), .val .null] [(.ref a2), (.ref x1)])) rfl (by rw [hml]; rfl) (argsL := [(.ref x1), (.ref a2)]) (rest := []) (lenOf own_pd0 rfl) rfl (by show 2 * 0 + _ ≤ _; exact Nat.le_of_eq rfl) (hb hby own_d_prog_75_method_1_7) (fun _ _ => ⟨rfl, e2, (by decide : 2 + 0 ≤ _), (by decide : 12 + 0 ≤ _)⟩)
  dsimp only [Pt.U, Pt.locs, Pt.cells, Pt.slots] at X3 lu3 yu3 zu3 st3 hQ3
  subst lu3 yu3 zu3
  obtain ⟨rfl, N3q, e3⟩ := hQ3
  have N3 := Fr.app N1 N3q
  refine own_go (T3.setTop (mkF m 10 #[.val (.ref a), .val (.ref x1), .val (.ref o), .val .null, .val (.ref ci), .val .null, .val (.ref b), .val (.ref la), .val .null] [(.ref x1)])) (fun t_ k_ => st3 _ k_) ?_
  refine own_go (T3.setTop (mkF m 11 #[.val (.ref a), .val (.ref x1), .val (.ref o), .val .null, .val (.ref ci), .val .null, .val (.ref b), .val (.ref la), .val .null] [])) (fun t_ k_ => XS.pop X3.here hx rfl (hb hby own_d_prog_75_method_1_10) rfl rfl k_) ?_
  refine own_go (T3.setTop (mkF m 12 #[.val (.ref a), .val (.ref x1), .val (.ref o), .val .null, .val (.ref ci), .val .null, .val (.ref b), .val (.ref la), .val .null] [(.ref o)])) (fun t_ k_ => XS.aloadN X3.here hx rfl (hb hby own_d_prog_75_method_1_11) rfl rfl k_) ?_
  obtain ⟨a4, T4, h4, k4, t4, kb4, X4, e4, E4, hS, hk, hZ, hown, A4, C4, V4, B4, lt4, ltb4, CC4, Li4, ne4, st4⟩ := ldcCH (EL := consts_1) X3 hx hZ hown (hw _ (List.mem_of_getElem? (i := 86) rfl)) (fun d hd => hw d (own_sA d hd)) e3 hS hk hEW (List.mem_of_getElem? (i := 4) rfl) R2.1 (vs := (([116, 121, 112, 101, 67, 111, 100, 101] : List Int32).map (fun c => c.toInt8.toInt32)).map Value.int) (z := 8) (by exact ⟨by decide, by rfl⟩) (by decide) (by rfl) (g := (mkF m 12 #[.val (.ref a), .val (.ref x1), .val (.ref o), .val .null, .val (.ref ci), .val .null, .val (.ref b), .val (.ref la), .val .null] [(.ref o)])) rfl (hb hby own_d_prog_75_method_1_12) (n := 32) (by decide) (by decide) (by decide) (by decide)
  have K4 : Keep h0 h4 [a] := K2.ext E4
  have O4 := own_ext O2 E4
  have R4 := R2.trans CC4
  refine own_go (T4.setTop (mkF m 14 #[.val (.ref a), .val (.ref x1), .val (.ref o), .val .null, .val (.ref ci), .val .null, .val (.ref b), .val (.ref la), .val .null] [(.ref a4), (.ref o)])) (fun t_ k_ => st4 _ k_) ?_
  have Fz5 := ((Xo.ext E2).ext E4)
  have Fz6 := ((Vo.ext E2).ext E4)
  have Fz7 := ((Ao.ext E2).ext E4)
  obtain ⟨_, _, ⟨T8, Lu8, ku8, nu8⟩, -, X8, ⟨Lc8, hQ8, lu8, yu8, zu8⟩, st8⟩ := Jvm.LawKit.callS X4 hx (y := (⟨"com/example/trailcaster/trailcaster/model/Checks", "text", "(Ljava/lang/String;Ljava/lang/String;)Ljava/lang/String;"⟩ : MethodName)) hown (mvT hZ (hw _ (List.mem_of_getElem? (i := 87) rfl))) (mvT hZ (hw _ (List.mem_of_getElem? (i := 26) rfl))) (mvT hZ (hw _ (List.mem_of_getElem? (i := 27) rfl))) (mvT hZ (hw _ (List.mem_of_getElem? (i := 28) rfl))) (by decide) (backOf (W := 0) (rm_tx l Z a0 hw [] (o) (t1) (kb) (_) (a4) h4 O4 Fz5 Fz6 Fz7) hZ (hw _ (List.mem_of_getElem? (i := 28) rfl)) (hw _ (List.mem_of_getElem? (i := 27) rfl)) (by decide) (by decide)) (g := (mkF m 14 #[.val (.ref a), .val (.ref x1), .val (.ref o), .val .null, .val (.ref ci), .val .null, .val (.ref b), .val (.ref la), .val .null] [(.ref a4), (.ref o)])) rfl (by rw [hml]; rfl) (argsL := [(.ref o), (.ref a4)]) (rest := []) (lenOf own_pd3 rfl) rfl (by show 2 * 0 + _ ≤ _; exact Nat.le_of_eq rfl) (hb hby own_d_prog_75_method_1_14) (fun _ _ => ⟨rfl, e4, (by decide : 4 + 0 ≤ _), (by decide : 48 + 0 ≤ _)⟩)
  dsimp only [Pt.U, Pt.locs, Pt.cells, Pt.slots] at X8 lu8 yu8 zu8 st8 hQ8
  subst lu8 yu8 zu8
  obtain ⟨rfl, N8q, e8⟩ := hQ8
  have N8 := Fr.app N3 N8q
  refine own_go (T8.setTop (mkF m 17 #[.val (.ref a), .val (.ref x1), .val (.ref o), .val .null, .val (.ref ci), .val .null, .val (.ref b), .val (.ref la), .val .null] [(.ref o)])) (fun t_ k_ => st8 _ k_) ?_
  refine own_go (T8.setTop (mkF m 18 #[.val (.ref a), .val (.ref x1), .val (.ref o), .val .null, .val (.ref ci), .val .null, .val (.ref b), .val (.ref la), .val .null] [])) (fun t_ k_ => XS.pop X8.here hx rfl (hb hby own_d_prog_75_method_1_17) rfl rfl k_) ?_
  refine own_go (T8.setTop (mkF m 19 #[.val (.ref a), .val (.ref x1), .val (.ref o), .val .null, .val (.ref ci), .val .null, .val (.ref b), .val (.ref la), .val .null] [.null])) (fun t_ k_ => XS.aloadN X8.here hx rfl (hb hby own_d_prog_75_method_1_18) rfl rfl k_) ?_
  obtain ⟨a9, T9, h9, k9, t9, kb9, X9, e9, E9, hS, hk, hZ, hown, A9, C9, V9, B9, lt9, ltb9, CC9, Li9, ne9, st9⟩ := ldcCH (EL := consts_1) X8 hx hZ hown (hw _ (List.mem_of_getElem? (i := 88) rfl)) (fun d hd => hw d (own_sA d hd)) e8 hS hk hEW (List.mem_of_getElem? (i := 5) rfl) R4.1 (vs := (([116, 121, 112, 101, 67, 111, 100, 101, 82, 111, 108, 101] : List Int32).map (fun c => c.toInt8.toInt32)).map Value.int) (z := 12) (by exact ⟨by decide, by rfl⟩) (by decide) (by rfl) (g := (mkF m 19 #[.val (.ref a), .val (.ref x1), .val (.ref o), .val .null, .val (.ref ci), .val .null, .val (.ref b), .val (.ref la), .val .null] [.null])) rfl (hb hby own_d_prog_75_method_1_19) (n := 48) (by decide) (by decide) (by decide) (by decide)
  have K9 : Keep h0 h9 [a] := K4.ext E9
  have O9 := own_ext O4 E9
  have R9 := R4.trans CC9
  refine own_go (T9.setTop (mkF m 21 #[.val (.ref a), .val (.ref x1), .val (.ref o), .val .null, .val (.ref ci), .val .null, .val (.ref b), .val (.ref la), .val .null] [(.ref a9), .null])) (fun t_ k_ => st9 _ k_) ?_
  obtain ⟨_, _, ⟨T10, Lu10, ku10, nu10⟩, -, X10, ⟨Lc10, hQ10, lu10, yu10, zu10⟩, st10⟩ := Jvm.LawKit.callS X9 hx (y := (⟨"com/example/trailcaster/trailcaster/model/Checks", "optionalText", "(Ljava/lang/String;Ljava/lang/String;)Ljava/lang/String;"⟩ : MethodName)) hown (mvT hZ (hw _ (List.mem_of_getElem? (i := 89) rfl))) (mvT hZ (hw _ (List.mem_of_getElem? (i := 90) rfl))) (mvT hZ (hw _ (List.mem_of_getElem? (i := 27) rfl))) (mvT hZ (hw _ (List.mem_of_getElem? (i := 91) rfl))) (by decide) (backOf (W := 0) (rm_ot l Z a0 hw [] (a9) h9 O9 ) hZ (hw _ (List.mem_of_getElem? (i := 91) rfl)) (hw _ (List.mem_of_getElem? (i := 27) rfl)) (by decide) (by decide)) (g := (mkF m 21 #[.val (.ref a), .val (.ref x1), .val (.ref o), .val .null, .val (.ref ci), .val .null, .val (.ref b), .val (.ref la), .val .null] [(.ref a9), .null])) rfl (by rw [hml]; rfl) (argsL := [.null, (.ref a9)]) (rest := []) (lenOf own_pd3 rfl) rfl (by show 2 * 0 + _ ≤ _; exact Nat.le_of_eq rfl) (hb hby own_d_prog_75_method_1_21) (fun _ _ => ⟨rfl, e9, (by decide : 6 + 0 ≤ _), (by decide : 100 + 0 ≤ _)⟩)
  dsimp only [Pt.U, Pt.locs, Pt.cells, Pt.slots] at X10 lu10 yu10 zu10 st10 hQ10
  subst lu10 yu10 zu10
  obtain ⟨rfl, N10q, e10⟩ := hQ10
  have N10 := Fr.app N8 N10q
  refine own_go (T10.setTop (mkF m 24 #[.val (.ref a), .val (.ref x1), .val (.ref o), .val .null, .val (.ref ci), .val .null, .val (.ref b), .val (.ref la), .val .null] [.null])) (fun t_ k_ => st10 _ k_) ?_
  refine own_go (T10.setTop (mkF m 25 #[.val (.ref a), .val (.ref x1), .val (.ref o), .val .null, .val (.ref ci), .val .null, .val (.ref b), .val (.ref la), .val .null] [])) (fun t_ k_ => XS.pop X10.here hx rfl (hb hby own_d_prog_75_method_1_24) rfl rfl k_) ?_
  refine own_go (T10.setTop (mkF m 27 #[.val (.ref a), .val (.ref x1), .val (.ref o), .val .null, .val (.ref ci), .val .null, .val (.ref b), .val (.ref la), .val .null] [(.ref ci)])) (fun t_ k_ => XS.aload X10.here hx rfl (hb hby own_d_prog_75_method_1_25) rfl rfl k_) ?_
  obtain ⟨a11, T11, h11, k11, t11, kb11, X11, e11, E11, hS, hk, hZ, hown, A11, C11, V11, B11, lt11, ltb11, CC11, Li11, ne11, st11⟩ := ldcCH (EL := consts_1) X10 hx hZ hown (hw _ (List.mem_of_getElem? (i := 92) rfl)) (fun d hd => hw d (own_sA d hd)) e10 hS hk hEW (List.mem_of_getElem? (i := 6) rfl) R9.1 (vs := (([105, 100, 84, 121, 112, 101, 67, 111, 100, 101] : List Int32).map (fun c => c.toInt8.toInt32)).map Value.int) (z := 10) (by exact ⟨by decide, by rfl⟩) (by decide) (by rfl) (g := (mkF m 27 #[.val (.ref a), .val (.ref x1), .val (.ref o), .val .null, .val (.ref ci), .val .null, .val (.ref b), .val (.ref la), .val .null] [(.ref ci)])) rfl (hb hby own_d_prog_75_method_1_27) (n := 40) (by decide) (by decide) (by decide) (by decide)
  have K11 : Keep h0 h11 [a] := K9.ext E11
  have O11 := own_ext O9 E11
  have R11 := R9.trans CC11
  refine own_go (T11.setTop (mkF m 29 #[.val (.ref a), .val (.ref x1), .val (.ref o), .val .null, .val (.ref ci), .val .null, .val (.ref b), .val (.ref la), .val .null] [(.ref a11), (.ref ci)])) (fun t_ k_ => st11 _ k_) ?_
  obtain ⟨_, _, ⟨T12, Lu12, ku12, nu12⟩, -, X12, ⟨Lc12, hQ12, lu12, yu12, zu12⟩, st12⟩ := Jvm.LawKit.callS X11 hx (y := (⟨"com/example/trailcaster/trailcaster/model/Checks", "required", "(Ljava/lang/Object;Ljava/lang/String;)Ljava/lang/Object;"⟩ : MethodName)) hown (mvT hZ (hw _ (List.mem_of_getElem? (i := 85) rfl))) (mvT hZ (hw _ (List.mem_of_getElem? (i := 30) rfl))) (mvT hZ (hw _ (List.mem_of_getElem? (i := 27) rfl))) (mvT hZ (hw _ (List.mem_of_getElem? (i := 31) rfl))) (by decide) (backOf (W := 0) (rm_rq l Z a0 hw [] (ci) (a11) h11 O11 ) hZ (hw _ (List.mem_of_getElem? (i := 31) rfl)) (hw _ (List.mem_of_getElem? (i := 27) rfl)) (by decide) (by decide)) (g := (mkF m 29 #[.val (.ref a), .val (.ref x1), .val (.ref o), .val .null, .val (.ref ci), .val .null, .val (.ref b), .val (.ref la), .val .null] [(.ref a11), (.ref ci)])) rfl (by rw [hml]; rfl) (argsL := [(.ref ci), (.ref a11)]) (rest := []) (lenOf own_pd0 rfl) rfl (by show 2 * 0 + _ ≤ _; exact Nat.le_of_eq rfl) (hb hby own_d_prog_75_method_1_29) (fun _ _ => ⟨rfl, e11, (by decide : 8 + 0 ≤ _), (by decide : 144 + 0 ≤ _)⟩)
  dsimp only [Pt.U, Pt.locs, Pt.cells, Pt.slots] at X12 lu12 yu12 zu12 st12 hQ12
  subst lu12 yu12 zu12
  obtain ⟨rfl, N12q, e12⟩ := hQ12
  have N12 := Fr.app N10 N12q
  refine own_go (T12.setTop (mkF m 32 #[.val (.ref a), .val (.ref x1), .val (.ref o), .val .null, .val (.ref ci), .val .null, .val (.ref b), .val (.ref la), .val .null] [(.ref ci)])) (fun t_ k_ => st12 _ k_) ?_
  refine own_go (T12.setTop (mkF m 33 #[.val (.ref a), .val (.ref x1), .val (.ref o), .val .null, .val (.ref ci), .val .null, .val (.ref b), .val (.ref la), .val .null] [])) (fun t_ k_ => XS.pop X12.here hx rfl (hb hby own_d_prog_75_method_1_32) rfl rfl k_) ?_
  refine own_go (T12.setTop (mkF m 35 #[.val (.ref a), .val (.ref x1), .val (.ref o), .val .null, .val (.ref ci), .val .null, .val (.ref b), .val (.ref la), .val .null] [.null])) (fun t_ k_ => XS.aload X12.here hx rfl (hb hby own_d_prog_75_method_1_33) rfl rfl k_) ?_
  refine own_go (T12.setTop (mkF m 38 #[.val (.ref a), .val (.ref x1), .val (.ref o), .val .null, .val (.ref ci), .val .null, .val (.ref b), .val (.ref la), .val .null] [])) (fun t_ k_ => XS.ifnonnullNo X12.here hx rfl (hb hby own_d_prog_75_method_1_35) rfl k_) ?_
  refine own_go (T12.setTop (mkF m 39 #[.val (.ref a), .val (.ref x1), .val (.ref o), .val .null, .val (.ref ci), .val .null, .val (.ref b), .val (.ref la), .val .null] [(.int (1 : Int32))])) (fun t_ k_ => XS.iconst X12.here hx rfl (hb hby own_d_prog_75_method_1_38) k_) ?_
  refine own_go (T12.setTop (mkF m 43 #[.val (.ref a), .val (.ref x1), .val (.ref o), .val .null, .val (.ref ci), .val .null, .val (.ref b), .val (.ref la), .val .null] [(.int (1 : Int32))])) (fun t_ k_ => XS.goto X12.here hx rfl (pc0 := 39) (pc' := 43) rfl (hb hby own_d_prog_75_method_1_39) (by decide) (by decide) k_) ?_
  refine own_go (T12.setTop (mkF m 45 #[.val (.ref a), .val (.ref x1), .val (.ref o), .val .null, .val (.ref ci), .val .null, .val (.ref b), .val (.ref la), .val .null] [(.ref b), (.int (1 : Int32))])) (fun t_ k_ => XS.aload X12.here hx rfl (hb hby own_d_prog_75_method_1_43) rfl rfl k_) ?_
  refine own_go (T12.setTop (mkF m 52 #[.val (.ref a), .val (.ref x1), .val (.ref o), .val .null, .val (.ref ci), .val .null, .val (.ref b), .val (.ref la), .val .null] [(.int (1 : Int32))])) (fun t_ k_ => XS.ifnonnullYes X12.here hx rfl (pc0 := 45) (pc' := 52) rfl (hb hby own_d_prog_75_method_1_45) rfl (by decide) (by decide) k_) ?_
  refine own_go (T12.setTop (mkF m 53 #[.val (.ref a), .val (.ref x1), .val (.ref o), .val .null, .val (.ref ci), .val .null, .val (.ref b), .val (.ref la), .val .null] [(.int (0 : Int32)), (.int (1 : Int32))])) (fun t_ k_ => XS.iconst X12.here hx rfl (hb hby own_d_prog_75_method_1_52) k_) ?_
  refine own_go (T12.setTop (mkF m 64 #[.val (.ref a), .val (.ref x1), .val (.ref o), .val .null, .val (.ref ci), .val .null, .val (.ref b), .val (.ref la), .val .null] [])) (fun t_ k_ => XS.icmpYes X12.here hx rfl (pc0 := 53) (pc' := 64) rfl (hb hby own_d_prog_75_method_1_53) rfl (feq (by decide : ¬ ((1 : Int32) = (0 : Int32)))).2 (by decide) (by decide) k_) ?_
  refine own_go (T12.setTop (mkF m 66 #[.val (.ref a), .val (.ref x1), .val (.ref o), .val .null, .val (.ref ci), .val .null, .val (.ref b), .val (.ref la), .val .null] [(.ref b)])) (fun t_ k_ => XS.aload X12.here hx rfl (hb hby own_d_prog_75_method_1_64) rfl rfl k_) ?_
  refine own_go (T12.setTop (mkF m 73 #[.val (.ref a), .val (.ref x1), .val (.ref o), .val .null, .val (.ref ci), .val .null, .val (.ref b), .val (.ref la), .val .null] [])) (fun t_ k_ => XS.ifnonnullYes X12.here hx rfl (pc0 := 66) (pc' := 73) rfl (hb hby own_d_prog_75_method_1_66) rfl (by decide) (by decide) k_) ?_
  refine own_go (T12.setTop (mkF m 75 #[.val (.ref a), .val (.ref x1), .val (.ref o), .val .null, .val (.ref ci), .val .null, .val (.ref b), .val (.ref la), .val .null] [(.ref b)])) (fun t_ k_ => XS.aload X12.here hx rfl (hb hby own_d_prog_75_method_1_73) rfl rfl k_) ?_
  have Fz14 := ((((Ab.ext E2).ext E4).ext E9).ext E11)
  have Fz15 := ((((Xb.ext E2).ext E4).ext E9).ext E11)
  obtain ⟨T13, h13, X13, e13, E13, A13, Xa13, st13⟩ := cloneH X12 hx hZ hown (hw _ (List.mem_of_getElem? (i := 93) rfl)) (hw _ (List.mem_of_getElem? (i := 94) rfl)) (hw _ (List.mem_of_getElem? (i := 98) rfl)) (hw _ (List.mem_of_getElem? (i := 96) rfl)) (hw _ (List.mem_of_getElem? (i := 97) rfl)) (hw _ (List.mem_of_getElem? (i := 99) rfl)) e12 (Arv.arh Fz14) Fz15 (g := (mkF m 75 #[.val (.ref a), .val (.ref x1), .val (.ref o), .val .null, .val (.ref ci), .val .null, .val (.ref b), .val (.ref la), .val .null] [(.ref b)])) rfl (by rw [hml]; rfl) rfl (hb hby own_d_prog_75_method_1_75) (by decide) (W := 0) (cap := 4) (by show 2 * 0 + _ ≤ _; exact Nat.le_of_eq rfl) (by decide) hz (by decide) (by decide)
  obtain ⟨b13, g13⟩ : ∃ z, z = h11.size := ⟨_, rfl⟩
  rw [← g13] at A13 Xa13 st13
  have ge_b13 : Z.heap.size ≤ b13 := Nat.le_trans O11.1 (Nat.le_of_eq g13.symm)
  have sz_b13 : h0.size ≤ b13 := Nat.le_trans K11.1 (Nat.le_of_eq g13.symm)
  have R13 := R11.trans (CHr.ext E13 R11.1)
  have Sf13 := Safe.ext (x := b13) E13 R11.1 (Safe.new (Nat.le_of_eq g13.symm))
  have K13 : Keep h0 h13 [a] := K11.ext E13
  have O13 := own_ext O11 E13
  have V13 : Arv Z h13 b13 kq .byte z qs (.int (0 : Int32)) := A13
  refine own_go (T13.setTop (mkF m 78 #[.val (.ref a), .val (.ref x1), .val (.ref o), .val .null, .val (.ref ci), .val .null, .val (.ref b), .val (.ref la), .val .null] [(.ref b13)])) (fun t_ k_ => st13 _ k_) ?_
  obtain ⟨T16, X16, e16, st16⟩ := castY X13 hx hZ hown (hw _ (List.mem_of_getElem? (i := 100) rfl)) e13 (Ins.self Xa13) (g := (mkF m 78 #[.val (.ref a), .val (.ref x1), .val (.ref o), .val .null, .val (.ref ci), .val .null, .val (.ref b), .val (.ref la), .val .null] [(.ref b13)])) rfl rfl (hb hby own_d_prog_75_method_1_78)
  refine own_go (T16.setTop (mkF m 81 #[.val (.ref a), .val (.ref x1), .val (.ref o), .val .null, .val (.ref ci), .val .null, .val (.ref b), .val (.ref la), .val .null] [(.ref b13)])) (fun t_ k_ => st16 _ k_) ?_
  refine own_go (T16.setTop (mkF m 83 #[.val (.ref a), .val (.ref x1), .val (.ref o), .val .null, .val (.ref ci), .val .null, .val (.ref b13), .val (.ref la), .val .null] [])) (fun t_ k_ => XS.astore X16.here hx rfl (hb hby own_d_prog_75_method_1_81) rfl rfl (l' := #[.val (.ref a), .val (.ref x1), .val (.ref o), .val .null, .val (.ref ci), .val .null, .val (.ref b13), .val (.ref la), .val .null]) rfl k_) ?_
  refine own_go (T16.setTop (mkF m 85 #[.val (.ref a), .val (.ref x1), .val (.ref o), .val .null, .val (.ref ci), .val .null, .val (.ref b13), .val (.ref la), .val .null] [(.ref la)])) (fun t_ k_ => XS.aload X16.here hx rfl (hb hby own_d_prog_75_method_1_83) rfl rfl k_) ?_
  obtain ⟨a17, T17, h17, k17, t17, kb17, X17, e17, E17, hS, hk, hZ, hown, A17, C17, V17, B17, lt17, ltb17, CC17, Li17, ne17, st17⟩ := ldcCH (EL := consts_1) X16 hx hZ hown (hw _ (List.mem_of_getElem? (i := 102) rfl)) (fun d hd => hw d (own_sA d hd)) e16 hS (Nat.le_trans hk E13.1) hEW (List.mem_of_getElem? (i := 7) rfl) R13.1 (vs := (([100, 101, 116, 97, 105, 108, 115] : List Int32).map (fun c => c.toInt8.toInt32)).map Value.int) (z := 7) (by exact ⟨by decide, by rfl⟩) (by decide) (by rfl) (g := (mkF m 85 #[.val (.ref a), .val (.ref x1), .val (.ref o), .val .null, .val (.ref ci), .val .null, .val (.ref b13), .val (.ref la), .val .null] [(.ref la)])) rfl (hb hby own_d_prog_75_method_1_85) (n := 28) (by decide) (by decide) (by decide) (by decide)
  have K17 : Keep h0 h17 [a] := K13.ext E17
  have O17 := own_ext O13 E17
  have R17 := R13.trans CC17
  refine own_go (T17.setTop (mkF m 87 #[.val (.ref a), .val (.ref x1), .val (.ref o), .val .null, .val (.ref ci), .val .null, .val (.ref b13), .val (.ref la), .val .null] [(.ref a17), (.ref la)])) (fun t_ k_ => st17 _ k_) ?_
  have Fz18 := ((((((Xl.ext E2).ext E4).ext E9).ext E11).ext E13).ext E17)
  have Fz19 := ((((((Fm.ext E2).ext E4).ext E9).ext E11).ext E13).ext E17)
  have Fz20 := ((((((Fs.ext E2).ext E4).ext E9).ext E11).ext E13).ext E17)
  obtain ⟨_, _, ⟨T21, Lu21, ku21, nu21⟩, -, X21, ⟨Lc21, hQ21, lu21, yu21, zu21⟩, st21⟩ := Jvm.LawKit.callS X17 hx (y := (⟨"com/example/trailcaster/trailcaster/model/Checks", "list", "(Ljava/util/List;Ljava/lang/String;)Ljava/util/List;"⟩ : MethodName)) hown (mvT hZ (hw _ (List.mem_of_getElem? (i := 103) rfl))) (mvT hZ (hw _ (List.mem_of_getElem? (i := 104) rfl))) (mvT hZ (hw _ (List.mem_of_getElem? (i := 27) rfl))) (mvT hZ (hw _ (List.mem_of_getElem? (i := 105) rfl))) (by decide) (backOf (W := 0) (rm_ls l Z a0 hw [] (la) (a17) (cs0) (a_EM) (a_DF) (m_A) (m_L) (m_R) h17 O17 w Fz18 Fz19 Fz20) hZ (hw _ (List.mem_of_getElem? (i := 105) rfl)) (hw _ (List.mem_of_getElem? (i := 27) rfl)) (by decide) (by decide)) (g := (mkF m 87 #[.val (.ref a), .val (.ref x1), .val (.ref o), .val .null, .val (.ref ci), .val .null, .val (.ref b13), .val (.ref la), .val .null] [(.ref a17), (.ref la)])) rfl (by rw [hml]; rfl) (argsL := [(.ref la), (.ref a17)]) (rest := []) (lenOf own_pd11 rfl) rfl (by show 2 * 0 + _ ≤ _; exact Nat.le_of_eq rfl) (hb hby own_d_prog_75_method_1_87) (fun _ _ => ⟨rfl, e17, (by decide : 11 + 3 ≤ _), (by decide : 180 + 9 ≤ _)⟩)
  dsimp only [Pt.U, Pt.locs, Pt.cells, Pt.slots] at X21 lu21 yu21 zu21 st21 hQ21
  subst lu21 yu21 zu21
  obtain ⟨r21, rfl, N21q, K21q⟩ := hQ21
  have N21 := Fr.app N12 N21q
  have O21 := own_extK O17 K21q all0
  have KK21 : Keep h0 T21.heap [a] := K17.trans K21q all0
  have R21 := R17.trans (CHr.keep K21q all0 R17.1)
  refine own_go (T21.setTop (mkF m 90 #[.val (.ref a), .val (.ref x1), .val (.ref o), .val .null, .val (.ref ci), .val .null, .val (.ref b13), .val (.ref la), .val .null] [(.ref r21)])) (fun t_ k_ => st21 _ k_) ?_
  refine own_go (T21.setTop (mkF m 92 #[.val (.ref a), .val (.ref x1), .val (.ref o), .val .null, .val (.ref ci), .val .null, .val (.ref b13), .val (.ref r21), .val .null] [])) (fun t_ k_ => XS.astore X21.here hx rfl (hb hby own_d_prog_75_method_1_90) rfl rfl (l' := #[.val (.ref a), .val (.ref x1), .val (.ref o), .val .null, .val (.ref ci), .val .null, .val (.ref b13), .val (.ref r21), .val .null]) rfl k_) ?_
  refine own_go (T21.setTop (mkF m 93 #[.val (.ref a), .val (.ref x1), .val (.ref o), .val .null, .val (.ref ci), .val .null, .val (.ref b13), .val (.ref r21), .val .null] [(.ref a)])) (fun t_ k_ => XS.aloadN X21.here hx rfl (hb hby own_d_prog_75_method_1_92) rfl rfl k_) ?_
  refine own_go (T21.setTop (mkF m 94 #[.val (.ref a), .val (.ref x1), .val (.ref o), .val .null, .val (.ref ci), .val .null, .val (.ref b13), .val (.ref r21), .val .null] [(.ref x1), (.ref a)])) (fun t_ k_ => XS.aloadN X21.here hx rfl (hb hby own_d_prog_75_method_1_93) rfl rfl k_) ?_
  have Fz22 := (((((((X.ext E2).ext E4).ext E9).ext E11).ext E13).ext E17).keep K21q)
  have Fz23 := (((((((F0.ext E2).ext E4).ext E9).ext E11).ext E13).ext E17).keep K21q nin0)
  obtain ⟨T24, h24, X24, e24, W24, st24⟩ := putF X21 hx hZ hown (host := "") (Or.inl (hw _ (List.mem_of_getElem? (i := 200) rfl))) Via.refl rfl Fz23 Fz22 (Or.inr ⟨(hw _ (List.mem_of_getElem? (i := 201) rfl)), rfl, hnm⟩) (hw _ (List.mem_of_getElem? (i := 76) rfl)) (ty := (.object "java/lang/String")) (by decide) rfl rfl (g := (mkF m 94 #[.val (.ref a), .val (.ref x1), .val (.ref o), .val .null, .val (.ref ci), .val .null, .val (.ref b13), .val (.ref r21), .val .null] [(.ref x1), (.ref a)])) rfl rfl (hb hby own_d_prog_75_method_1_94)
  have Fw24 := Fz23.same W24
  have Fz25 := (Safe.keep K21q all0 R17.1 (CC17.safe (((((X.ext E2).ext E4).ext E9).ext E11).ext E13).lt (Safe.ext E13 R11.1 (CC11.safe (((X.ext E2).ext E4).ext E9).lt (CC9.safe ((X.ext E2).ext E4).lt (CC4.safe (X.ext E2).lt (CC2.safe X.lt Sa)))))))
  have R24 := R21.trans (CHr.wr W24 Fz25 R21.1)
  have K24 : Keep h0 h24 [a] := KK21.wr W24 (Or.inl (List.mem_of_getElem? (i := 0) rfl))
  have N24 := Fr.snoc X24 N21 ga
  have O24 := own_extW O21 W24 ga
  refine own_go (T24.setTop (mkF m 97 #[.val (.ref a), .val (.ref x1), .val (.ref o), .val .null, .val (.ref ci), .val .null, .val (.ref b13), .val (.ref r21), .val .null] [])) (fun t_ k_ => st24 _ k_) ?_
  refine own_go (T24.setTop (mkF m 98 #[.val (.ref a), .val (.ref x1), .val (.ref o), .val .null, .val (.ref ci), .val .null, .val (.ref b13), .val (.ref r21), .val .null] [(.ref a)])) (fun t_ k_ => XS.aloadN X24.here hx rfl (hb hby own_d_prog_75_method_1_97) rfl rfl k_) ?_
  refine own_go (T24.setTop (mkF m 99 #[.val (.ref a), .val (.ref x1), .val (.ref o), .val .null, .val (.ref ci), .val .null, .val (.ref b13), .val (.ref r21), .val .null] [(.ref o), (.ref a)])) (fun t_ k_ => XS.aloadN X24.here hx rfl (hb hby own_d_prog_75_method_1_98) rfl rfl k_) ?_
  have Fz26 := (Fz22.wr W24)
  have Fz27 := ((((((((F1.ext E2).ext E4).ext E9).ext E11).ext E13).ext E17).keep K21q nin0).other W24 (Or.inr (slot_ne (a0 := a0) (Or.inr (hw _ (List.mem_of_getElem? (i := 203) rfl))) (Or.inr (hw _ (List.mem_of_getElem? (i := 201) rfl))) (by decide) (t := (.object "java/lang/String")) (t' := (.object "java/lang/String")) (by decide) (by decide))))
  obtain ⟨T28, h28, X28, e28, W28, st28⟩ := putF X24 hx hZ hown (host := "") (Or.inl (hw _ (List.mem_of_getElem? (i := 202) rfl))) Via.refl e24 Fz27 Fz26 (Or.inr ⟨(hw _ (List.mem_of_getElem? (i := 203) rfl)), rfl, hnm⟩) (hw _ (List.mem_of_getElem? (i := 76) rfl)) (ty := (.object "java/lang/String")) (by decide) rfl rfl (g := (mkF m 99 #[.val (.ref a), .val (.ref x1), .val (.ref o), .val .null, .val (.ref ci), .val .null, .val (.ref b13), .val (.ref r21), .val .null] [(.ref o), (.ref a)])) rfl rfl (hb hby own_d_prog_75_method_1_99)
  have Fw28 := Fz27.same W28
  have Fz29 := (Safe.wr W24 Fz25 R21.1 Fz25)
  have R28 := R24.trans (CHr.wr W28 Fz29 R24.1)
  have K28 : Keep h0 h28 [a] := K24.wr W28 (Or.inl (List.mem_of_getElem? (i := 0) rfl))
  have N28 := Fr.snoc X28 N24 ga
  have O28 := own_extW O24 W28 ga
  refine own_go (T28.setTop (mkF m 102 #[.val (.ref a), .val (.ref x1), .val (.ref o), .val .null, .val (.ref ci), .val .null, .val (.ref b13), .val (.ref r21), .val .null] [])) (fun t_ k_ => st28 _ k_) ?_
  refine own_go (T28.setTop (mkF m 103 #[.val (.ref a), .val (.ref x1), .val (.ref o), .val .null, .val (.ref ci), .val .null, .val (.ref b13), .val (.ref r21), .val .null] [(.ref a)])) (fun t_ k_ => XS.aloadN X28.here hx rfl (hb hby own_d_prog_75_method_1_102) rfl rfl k_) ?_
  refine own_go (T28.setTop (mkF m 104 #[.val (.ref a), .val (.ref x1), .val (.ref o), .val .null, .val (.ref ci), .val .null, .val (.ref b13), .val (.ref r21), .val .null] [.null, (.ref a)])) (fun t_ k_ => XS.aloadN X28.here hx rfl (hb hby own_d_prog_75_method_1_103) rfl rfl k_) ?_
  have Fz30 := (Fz26.wr W28)
  have Fz31 := (((((((((F2.ext E2).ext E4).ext E9).ext E11).ext E13).ext E17).keep K21q nin0).other W24 (Or.inr (slot_ne (a0 := a0) (Or.inr (hw _ (List.mem_of_getElem? (i := 205) rfl))) (Or.inr (hw _ (List.mem_of_getElem? (i := 201) rfl))) (by decide) (t := (.object "java/lang/String")) (t' := (.object "java/lang/String")) (by decide) (by decide)))).other W28 (Or.inr (slot_ne (a0 := a0) (Or.inr (hw _ (List.mem_of_getElem? (i := 205) rfl))) (Or.inr (hw _ (List.mem_of_getElem? (i := 203) rfl))) (by decide) (t := (.object "java/lang/String")) (t' := (.object "java/lang/String")) (by decide) (by decide))))
  obtain ⟨T32, h32, X32, e32, W32, st32⟩ := putF X28 hx hZ hown (host := "") (Or.inl (hw _ (List.mem_of_getElem? (i := 204) rfl))) Via.refl e28 Fz31 Fz30 (Or.inr ⟨(hw _ (List.mem_of_getElem? (i := 205) rfl)), rfl, hnm⟩) (hw _ (List.mem_of_getElem? (i := 76) rfl)) (ty := (.object "java/lang/String")) (by decide) rfl rfl (g := (mkF m 104 #[.val (.ref a), .val (.ref x1), .val (.ref o), .val .null, .val (.ref ci), .val .null, .val (.ref b13), .val (.ref r21), .val .null] [.null, (.ref a)])) rfl rfl (hb hby own_d_prog_75_method_1_104)
  have Fw32 := Fz31.same W32
  have Fz33 := (Safe.wr W28 Fz29 R24.1 Fz29)
  have R32 := R28.trans (CHr.wr W32 Fz33 R28.1)
  have K32 : Keep h0 h32 [a] := K28.wr W32 (Or.inl (List.mem_of_getElem? (i := 0) rfl))
  have N32 := Fr.snoc X32 N28 ga
  have O32 := own_extW O28 W32 ga
  refine own_go (T32.setTop (mkF m 107 #[.val (.ref a), .val (.ref x1), .val (.ref o), .val .null, .val (.ref ci), .val .null, .val (.ref b13), .val (.ref r21), .val .null] [])) (fun t_ k_ => st32 _ k_) ?_
  refine own_go (T32.setTop (mkF m 108 #[.val (.ref a), .val (.ref x1), .val (.ref o), .val .null, .val (.ref ci), .val .null, .val (.ref b13), .val (.ref r21), .val .null] [(.ref a)])) (fun t_ k_ => XS.aloadN X32.here hx rfl (hb hby own_d_prog_75_method_1_107) rfl rfl k_) ?_
  refine own_go (T32.setTop (mkF m 110 #[.val (.ref a), .val (.ref x1), .val (.ref o), .val .null, .val (.ref ci), .val .null, .val (.ref b13), .val (.ref r21), .val .null] [(.ref ci), (.ref a)])) (fun t_ k_ => XS.aload X32.here hx rfl (hb hby own_d_prog_75_method_1_108) rfl rfl k_) ?_
  have Fz34 := (Fz30.wr W32)
  have Fz35 := ((((((((((F3.ext E2).ext E4).ext E9).ext E11).ext E13).ext E17).keep K21q nin0).other W24 (Or.inr (slot_ne (a0 := a0) (Or.inr (hw _ (List.mem_of_getElem? (i := 207) rfl))) (Or.inr (hw _ (List.mem_of_getElem? (i := 201) rfl))) (by decide) (t := (.object "com/example/trailcaster/trailcaster/model/CodedValue")) (t' := (.object "java/lang/String")) (by decide) (by decide)))).other W28 (Or.inr (slot_ne (a0 := a0) (Or.inr (hw _ (List.mem_of_getElem? (i := 207) rfl))) (Or.inr (hw _ (List.mem_of_getElem? (i := 203) rfl))) (by decide) (t := (.object "com/example/trailcaster/trailcaster/model/CodedValue")) (t' := (.object "java/lang/String")) (by decide) (by decide)))).other W32 (Or.inr (slot_ne (a0 := a0) (Or.inr (hw _ (List.mem_of_getElem? (i := 207) rfl))) (Or.inr (hw _ (List.mem_of_getElem? (i := 205) rfl))) (by decide) (t := (.object "com/example/trailcaster/trailcaster/model/CodedValue")) (t' := (.object "java/lang/String")) (by decide) (by decide))))
  obtain ⟨T36, h36, X36, e36, W36, st36⟩ := putF X32 hx hZ hown (host := "") (Or.inl (hw _ (List.mem_of_getElem? (i := 206) rfl))) Via.refl e32 Fz35 Fz34 (Or.inr ⟨(hw _ (List.mem_of_getElem? (i := 207) rfl)), rfl, hnm⟩) (hw _ (List.mem_of_getElem? (i := 76) rfl)) (ty := (.object "com/example/trailcaster/trailcaster/model/CodedValue")) (by decide) rfl rfl (g := (mkF m 110 #[.val (.ref a), .val (.ref x1), .val (.ref o), .val .null, .val (.ref ci), .val .null, .val (.ref b13), .val (.ref r21), .val .null] [(.ref ci), (.ref a)])) rfl rfl (hb hby own_d_prog_75_method_1_110)
  have Fw36 := Fz35.same W36
  have Fz37 := (Safe.wr W32 Fz33 R28.1 Fz33)
  have R36 := R32.trans (CHr.wr W36 Fz37 R32.1)
  have K36 : Keep h0 h36 [a] := K32.wr W36 (Or.inl (List.mem_of_getElem? (i := 0) rfl))
  have N36 := Fr.snoc X36 N32 ga
  have O36 := own_extW O32 W36 ga
  refine own_go (T36.setTop (mkF m 113 #[.val (.ref a), .val (.ref x1), .val (.ref o), .val .null, .val (.ref ci), .val .null, .val (.ref b13), .val (.ref r21), .val .null] [])) (fun t_ k_ => st36 _ k_) ?_
  refine own_go (T36.setTop (mkF m 114 #[.val (.ref a), .val (.ref x1), .val (.ref o), .val .null, .val (.ref ci), .val .null, .val (.ref b13), .val (.ref r21), .val .null] [(.ref a)])) (fun t_ k_ => XS.aloadN X36.here hx rfl (hb hby own_d_prog_75_method_1_113) rfl rfl k_) ?_
  refine own_go (T36.setTop (mkF m 116 #[.val (.ref a), .val (.ref x1), .val (.ref o), .val .null, .val (.ref ci), .val .null, .val (.ref b13), .val (.ref r21), .val .null] [.null, (.ref a)])) (fun t_ k_ => XS.aload X36.here hx rfl (hb hby own_d_prog_75_method_1_114) rfl rfl k_) ?_
  have Fz38 := (Fz34.wr W36)
  have Fz39 := (((((((((((F4.ext E2).ext E4).ext E9).ext E11).ext E13).ext E17).keep K21q nin0).other W24 (Or.inr (slot_ne (a0 := a0) (Or.inr (hw _ (List.mem_of_getElem? (i := 209) rfl))) (Or.inr (hw _ (List.mem_of_getElem? (i := 201) rfl))) (by decide) (t := (.object "java/lang/String")) (t' := (.object "java/lang/String")) (by decide) (by decide)))).other W28 (Or.inr (slot_ne (a0 := a0) (Or.inr (hw _ (List.mem_of_getElem? (i := 209) rfl))) (Or.inr (hw _ (List.mem_of_getElem? (i := 203) rfl))) (by decide) (t := (.object "java/lang/String")) (t' := (.object "java/lang/String")) (by decide) (by decide)))).other W32 (Or.inr (slot_ne (a0 := a0) (Or.inr (hw _ (List.mem_of_getElem? (i := 209) rfl))) (Or.inr (hw _ (List.mem_of_getElem? (i := 205) rfl))) (by decide) (t := (.object "java/lang/String")) (t' := (.object "java/lang/String")) (by decide) (by decide)))).other W36 (Or.inr (slot_ne (a0 := a0) (Or.inr (hw _ (List.mem_of_getElem? (i := 209) rfl))) (Or.inr (hw _ (List.mem_of_getElem? (i := 207) rfl))) (by decide) (t := (.object "java/lang/String")) (t' := (.object "com/example/trailcaster/trailcaster/model/CodedValue")) (by decide) (by decide))))
  obtain ⟨T40, h40, X40, e40, W40, st40⟩ := putF X36 hx hZ hown (host := "") (Or.inl (hw _ (List.mem_of_getElem? (i := 208) rfl))) Via.refl e36 Fz39 Fz38 (Or.inr ⟨(hw _ (List.mem_of_getElem? (i := 209) rfl)), rfl, hnm⟩) (hw _ (List.mem_of_getElem? (i := 76) rfl)) (ty := (.object "java/lang/String")) (by decide) rfl rfl (g := (mkF m 116 #[.val (.ref a), .val (.ref x1), .val (.ref o), .val .null, .val (.ref ci), .val .null, .val (.ref b13), .val (.ref r21), .val .null] [.null, (.ref a)])) rfl rfl (hb hby own_d_prog_75_method_1_116)
  have Fw40 := Fz39.same W40
  have Fz41 := (Safe.wr W36 Fz37 R32.1 Fz37)
  have R40 := R36.trans (CHr.wr W40 Fz41 R36.1)
  have K40 : Keep h0 h40 [a] := K36.wr W40 (Or.inl (List.mem_of_getElem? (i := 0) rfl))
  have N40 := Fr.snoc X40 N36 ga
  have O40 := own_extW O36 W40 ga
  refine own_go (T40.setTop (mkF m 119 #[.val (.ref a), .val (.ref x1), .val (.ref o), .val .null, .val (.ref ci), .val .null, .val (.ref b13), .val (.ref r21), .val .null] [])) (fun t_ k_ => st40 _ k_) ?_
  refine own_go (T40.setTop (mkF m 120 #[.val (.ref a), .val (.ref x1), .val (.ref o), .val .null, .val (.ref ci), .val .null, .val (.ref b13), .val (.ref r21), .val .null] [(.ref a)])) (fun t_ k_ => XS.aloadN X40.here hx rfl (hb hby own_d_prog_75_method_1_119) rfl rfl k_) ?_
  refine own_go (T40.setTop (mkF m 122 #[.val (.ref a), .val (.ref x1), .val (.ref o), .val .null, .val (.ref ci), .val .null, .val (.ref b13), .val (.ref r21), .val .null] [(.ref b13), (.ref a)])) (fun t_ k_ => XS.aload X40.here hx rfl (hb hby own_d_prog_75_method_1_120) rfl rfl k_) ?_
  have Fz42 := (Fz38.wr W40)
  have Fz43 := ((((((((((((F5.ext E2).ext E4).ext E9).ext E11).ext E13).ext E17).keep K21q nin0).other W24 (Or.inr (slot_ne (a0 := a0) (Or.inr (hw _ (List.mem_of_getElem? (i := 211) rfl))) (Or.inr (hw _ (List.mem_of_getElem? (i := 201) rfl))) (by decide) (t := (.array .byte)) (t' := (.object "java/lang/String")) (by decide) (by decide)))).other W28 (Or.inr (slot_ne (a0 := a0) (Or.inr (hw _ (List.mem_of_getElem? (i := 211) rfl))) (Or.inr (hw _ (List.mem_of_getElem? (i := 203) rfl))) (by decide) (t := (.array .byte)) (t' := (.object "java/lang/String")) (by decide) (by decide)))).other W32 (Or.inr (slot_ne (a0 := a0) (Or.inr (hw _ (List.mem_of_getElem? (i := 211) rfl))) (Or.inr (hw _ (List.mem_of_getElem? (i := 205) rfl))) (by decide) (t := (.array .byte)) (t' := (.object "java/lang/String")) (by decide) (by decide)))).other W36 (Or.inr (slot_ne (a0 := a0) (Or.inr (hw _ (List.mem_of_getElem? (i := 211) rfl))) (Or.inr (hw _ (List.mem_of_getElem? (i := 207) rfl))) (by decide) (t := (.array .byte)) (t' := (.object "com/example/trailcaster/trailcaster/model/CodedValue")) (by decide) (by decide)))).other W40 (Or.inr (slot_ne (a0 := a0) (Or.inr (hw _ (List.mem_of_getElem? (i := 211) rfl))) (Or.inr (hw _ (List.mem_of_getElem? (i := 209) rfl))) (by decide) (t := (.array .byte)) (t' := (.object "java/lang/String")) (by decide) (by decide))))
  obtain ⟨T44, h44, X44, e44, W44, st44⟩ := putF X40 hx hZ hown (host := "") (Or.inl (hw _ (List.mem_of_getElem? (i := 210) rfl))) Via.refl e40 Fz43 Fz42 (Or.inr ⟨(hw _ (List.mem_of_getElem? (i := 211) rfl)), rfl, hnm⟩) (hw _ (List.mem_of_getElem? (i := 76) rfl)) (ty := (.array .byte)) (by decide) rfl rfl (g := (mkF m 122 #[.val (.ref a), .val (.ref x1), .val (.ref o), .val .null, .val (.ref ci), .val .null, .val (.ref b13), .val (.ref r21), .val .null] [(.ref b13), (.ref a)])) rfl rfl (hb hby own_d_prog_75_method_1_122)
  have Fw44 := Fz43.same W44
  have Fz45 := (Safe.wr W40 Fz41 R36.1 Fz41)
  have R44 := R40.trans (CHr.wr W44 Fz45 R40.1)
  have K44 : Keep h0 h44 [a] := K40.wr W44 (Or.inl (List.mem_of_getElem? (i := 0) rfl))
  have N44 := Fr.snoc X44 N40 ga
  have O44 := own_extW O40 W44 ga
  refine own_go (T44.setTop (mkF m 125 #[.val (.ref a), .val (.ref x1), .val (.ref o), .val .null, .val (.ref ci), .val .null, .val (.ref b13), .val (.ref r21), .val .null] [])) (fun t_ k_ => st44 _ k_) ?_
  refine own_go (T44.setTop (mkF m 126 #[.val (.ref a), .val (.ref x1), .val (.ref o), .val .null, .val (.ref ci), .val .null, .val (.ref b13), .val (.ref r21), .val .null] [(.ref a)])) (fun t_ k_ => XS.aloadN X44.here hx rfl (hb hby own_d_prog_75_method_1_125) rfl rfl k_) ?_
  refine own_go (T44.setTop (mkF m 128 #[.val (.ref a), .val (.ref x1), .val (.ref o), .val .null, .val (.ref ci), .val .null, .val (.ref b13), .val (.ref r21), .val .null] [(.ref r21), (.ref a)])) (fun t_ k_ => XS.aload X44.here hx rfl (hb hby own_d_prog_75_method_1_126) rfl rfl k_) ?_
  have Fz46 := (Fz42.wr W44)
  have Fz47 := (((((((((((((F6.ext E2).ext E4).ext E9).ext E11).ext E13).ext E17).keep K21q nin0).other W24 (Or.inr (slot_ne (a0 := a0) (Or.inr (hw _ (List.mem_of_getElem? (i := 213) rfl))) (Or.inr (hw _ (List.mem_of_getElem? (i := 201) rfl))) (by decide) (t := (.object "java/util/List")) (t' := (.object "java/lang/String")) (by decide) (by decide)))).other W28 (Or.inr (slot_ne (a0 := a0) (Or.inr (hw _ (List.mem_of_getElem? (i := 213) rfl))) (Or.inr (hw _ (List.mem_of_getElem? (i := 203) rfl))) (by decide) (t := (.object "java/util/List")) (t' := (.object "java/lang/String")) (by decide) (by decide)))).other W32 (Or.inr (slot_ne (a0 := a0) (Or.inr (hw _ (List.mem_of_getElem? (i := 213) rfl))) (Or.inr (hw _ (List.mem_of_getElem? (i := 205) rfl))) (by decide) (t := (.object "java/util/List")) (t' := (.object "java/lang/String")) (by decide) (by decide)))).other W36 (Or.inr (slot_ne (a0 := a0) (Or.inr (hw _ (List.mem_of_getElem? (i := 213) rfl))) (Or.inr (hw _ (List.mem_of_getElem? (i := 207) rfl))) (by decide) (t := (.object "java/util/List")) (t' := (.object "com/example/trailcaster/trailcaster/model/CodedValue")) (by decide) (by decide)))).other W40 (Or.inr (slot_ne (a0 := a0) (Or.inr (hw _ (List.mem_of_getElem? (i := 213) rfl))) (Or.inr (hw _ (List.mem_of_getElem? (i := 209) rfl))) (by decide) (t := (.object "java/util/List")) (t' := (.object "java/lang/String")) (by decide) (by decide)))).other W44 (Or.inr (slot_ne (a0 := a0) (Or.inr (hw _ (List.mem_of_getElem? (i := 213) rfl))) (Or.inr (hw _ (List.mem_of_getElem? (i := 211) rfl))) (by decide) (t := (.object "java/util/List")) (t' := (.array .byte)) (by decide) (by decide))))
  obtain ⟨T48, h48, X48, e48, W48, st48⟩ := putF X44 hx hZ hown (host := "") (Or.inl (hw _ (List.mem_of_getElem? (i := 212) rfl))) Via.refl e44 Fz47 Fz46 (Or.inr ⟨(hw _ (List.mem_of_getElem? (i := 213) rfl)), rfl, hnm⟩) (hw _ (List.mem_of_getElem? (i := 76) rfl)) (ty := (.object "java/util/List")) (by decide) rfl rfl (g := (mkF m 128 #[.val (.ref a), .val (.ref x1), .val (.ref o), .val .null, .val (.ref ci), .val .null, .val (.ref b13), .val (.ref r21), .val .null] [(.ref r21), (.ref a)])) rfl rfl (hb hby own_d_prog_75_method_1_128)
  have Fw48 := Fz47.same W48
  have Fz49 := (Safe.wr W44 Fz45 R40.1 Fz45)
  have R48 := R44.trans (CHr.wr W48 Fz49 R44.1)
  have K48 : Keep h0 h48 [a] := K44.wr W48 (Or.inl (List.mem_of_getElem? (i := 0) rfl))
  have N48 := Fr.snoc X48 N44 ga
  have O48 := own_extW O44 W48 ga
  refine own_go (T48.setTop (mkF m 131 #[.val (.ref a), .val (.ref x1), .val (.ref o), .val .null, .val (.ref ci), .val .null, .val (.ref b13), .val (.ref r21), .val .null] [])) (fun t_ k_ => st48 _ k_) ?_
  refine own_go (T48.setTop (mkF m 132 #[.val (.ref a), .val (.ref x1), .val (.ref o), .val .null, .val (.ref ci), .val .null, .val (.ref b13), .val (.ref r21), .val .null] [(.ref a)])) (fun t_ k_ => XS.aloadN X48.here hx rfl (hb hby own_d_prog_75_method_1_131) rfl rfl k_) ?_
  refine own_go (T48.setTop (mkF m 134 #[.val (.ref a), .val (.ref x1), .val (.ref o), .val .null, .val (.ref ci), .val .null, .val (.ref b13), .val (.ref r21), .val .null] [.null, (.ref a)])) (fun t_ k_ => XS.aload X48.here hx rfl (hb hby own_d_prog_75_method_1_132) rfl rfl k_) ?_
  have Fz50 := (Fz46.wr W48)
  have Fz51 := ((((((((((((((F7.ext E2).ext E4).ext E9).ext E11).ext E13).ext E17).keep K21q nin0).other W24 (Or.inr (slot_ne (a0 := a0) (Or.inr (hw _ (List.mem_of_getElem? (i := 215) rfl))) (Or.inr (hw _ (List.mem_of_getElem? (i := 201) rfl))) (by decide) (t := (.object "com/example/trailcaster/trailcaster/model/DicomObjectDescription")) (t' := (.object "java/lang/String")) (by decide) (by decide)))).other W28 (Or.inr (slot_ne (a0 := a0) (Or.inr (hw _ (List.mem_of_getElem? (i := 215) rfl))) (Or.inr (hw _ (List.mem_of_getElem? (i := 203) rfl))) (by decide) (t := (.object "com/example/trailcaster/trailcaster/model/DicomObjectDescription")) (t' := (.object "java/lang/String")) (by decide) (by decide)))).other W32 (Or.inr (slot_ne (a0 := a0) (Or.inr (hw _ (List.mem_of_getElem? (i := 215) rfl))) (Or.inr (hw _ (List.mem_of_getElem? (i := 205) rfl))) (by decide) (t := (.object "com/example/trailcaster/trailcaster/model/DicomObjectDescription")) (t' := (.object "java/lang/String")) (by decide) (by decide)))).other W36 (Or.inr (slot_ne (a0 := a0) (Or.inr (hw _ (List.mem_of_getElem? (i := 215) rfl))) (Or.inr (hw _ (List.mem_of_getElem? (i := 207) rfl))) (by decide) (t := (.object "com/example/trailcaster/trailcaster/model/DicomObjectDescription")) (t' := (.object "com/example/trailcaster/trailcaster/model/CodedValue")) (by decide) (by decide)))).other W40 (Or.inr (slot_ne (a0 := a0) (Or.inr (hw _ (List.mem_of_getElem? (i := 215) rfl))) (Or.inr (hw _ (List.mem_of_getElem? (i := 209) rfl))) (by decide) (t := (.object "com/example/trailcaster/trailcaster/model/DicomObjectDescription")) (t' := (.object "java/lang/String")) (by decide) (by decide)))).other W44 (Or.inr (slot_ne (a0 := a0) (Or.inr (hw _ (List.mem_of_getElem? (i := 215) rfl))) (Or.inr (hw _ (List.mem_of_getElem? (i := 211) rfl))) (by decide) (t := (.object "com/example/trailcaster/trailcaster/model/DicomObjectDescription")) (t' := (.array .byte)) (by decide) (by decide)))).other W48 (Or.inr (slot_ne (a0 := a0) (Or.inr (hw _ (List.mem_of_getElem? (i := 215) rfl))) (Or.inr (hw _ (List.mem_of_getElem? (i := 213) rfl))) (by decide) (t := (.object "com/example/trailcaster/trailcaster/model/DicomObjectDescription")) (t' := (.object "java/util/List")) (by decide) (by decide))))
  obtain ⟨T52, h52, X52, e52, W52, st52⟩ := putF X48 hx hZ hown (host := "") (Or.inl (hw _ (List.mem_of_getElem? (i := 214) rfl))) Via.refl e48 Fz51 Fz50 (Or.inr ⟨(hw _ (List.mem_of_getElem? (i := 215) rfl)), rfl, hnm⟩) (hw _ (List.mem_of_getElem? (i := 76) rfl)) (ty := (.object "com/example/trailcaster/trailcaster/model/DicomObjectDescription")) (by decide) rfl rfl (g := (mkF m 134 #[.val (.ref a), .val (.ref x1), .val (.ref o), .val .null, .val (.ref ci), .val .null, .val (.ref b13), .val (.ref r21), .val .null] [.null, (.ref a)])) rfl rfl (hb hby own_d_prog_75_method_1_134)
  have Fw52 := Fz51.same W52
  have Fz53 := (Safe.wr W48 Fz49 R44.1 Fz49)
  have R52 := R48.trans (CHr.wr W52 Fz53 R48.1)
  have K52 : Keep h0 h52 [a] := K48.wr W52 (Or.inl (List.mem_of_getElem? (i := 0) rfl))
  have N52 := Fr.snoc X52 N48 ga
  have O52 := own_extW O48 W52 ga
  refine own_go (T52.setTop (mkF m 137 #[.val (.ref a), .val (.ref x1), .val (.ref o), .val .null, .val (.ref ci), .val .null, .val (.ref b13), .val (.ref r21), .val .null] [])) (fun t_ k_ => st52 _ k_) ?_
  obtain ⟨fs, hr, hrun, hended, hRW⟩ := X52.leaveW hS (by rw [show T52.heap = h52 from e52]; exact (Nat.le_trans (Nat.le_trans (Nat.le_trans (Nat.le_trans (Nat.le_trans (Nat.le_trans (Nat.le_trans (Nat.le_trans (Nat.le_trans hk K21q.1) (Keep.of_wr W24).1) (Keep.of_wr W28).1) (Keep.of_wr W32).1) (Keep.of_wr W36).1) (Keep.of_wr W40).1) (Keep.of_wr W44).1) (Keep.of_wr W48).1) (Keep.of_wr W52).1)) (v := none) (fun _ => rfl)
  refine ⟨_, _, X52.returnOut hx Bd.returns (hb hby own_d_prog_75_method_1_137) hr, hrun, hended, _, _, rfl, ?_, (by rw [hh]; show CHr Z consts_1 s.vm h0 T52.vm T52.heap; rw [show T52.heap = h52 from e52]; exact R52.trans (CHv.at X52 hZ hEW R52.1)), hRW.1, hRW.2.1, hRW.2.2.1, hRW.2.2.2.mono (by decide) (by decide)⟩
  show Q_poB Z a x1 ci la o t1 kb vs b kq z qs cs0 a_EM a_DF m_A m_L m_R h0 _ T52.heap _
  have Fz54 := (Fz50.wr W52)
  have Fz55 := ((Fw44.other W48 (Or.inr (slot_ne (a0 := a0) (Or.inr (hw _ (List.mem_of_getElem? (i := 211) rfl))) (Or.inr (hw _ (List.mem_of_getElem? (i := 213) rfl))) (by decide) (t := (.array .byte)) (t' := (.object "java/util/List")) (by decide) (by decide)))).other W52 (Or.inr (slot_ne (a0 := a0) (Or.inr (hw _ (List.mem_of_getElem? (i := 211) rfl))) (Or.inr (hw _ (List.mem_of_getElem? (i := 215) rfl))) (by decide) (t := (.array .byte)) (t' := (.object "com/example/trailcaster/trailcaster/model/DicomObjectDescription")) (by decide) (by decide))))
  have Fz56 := ((((((((((Xa13.ext E17).keep K21q).wr W24).wr W28).wr W32).wr W36).wr W40).wr W44).wr W48).wr W52)
  have Nz57 : a ≠ b13 := (Nat.ne_of_lt (Nat.lt_of_lt_of_le ((((X.ext E2).ext E4).ext E9).ext E11).lt (Nat.le_of_eq g13.symm)))
  have Fz58 := ((((((((((V13.ext E17).keep K21q nin0).other W24 (Ne.symm Nz57)).other W28 (Ne.symm Nz57)).other W32 (Ne.symm Nz57)).other W36 (Ne.symm Nz57)).other W40 (Ne.symm Nz57)).other W44 (Ne.symm Nz57)).other W48 (Ne.symm Nz57)).other W52 (Ne.symm Nz57))
  rw [show T52.heap = h52 from e52]
  exact ⟨_, rfl, N52, K52, sz_b13, Fz54, Fz55, Fz56, Fz58⟩
theorem own_ef_qyA (m : MethodId) (a : Addr) : entryFrame m #[(.ref a)] 1 = mkF m 0 #[.val (.ref a)] [] := by first | (simp [entryFrame, mkF, argsToLocals, Value.category]; done) | rfl
theorem own_d_prog_75_method_2_0 : decode prog_75_method_2_code 0 = .ok (.aload_n 0, 1) := by decide +kernel
theorem own_d_prog_75_method_2_1 : decode prog_75_method_2_code 1 = .ok (.getfield 62, 3) := by decide +kernel
theorem own_d_prog_75_method_2_4 : decode prog_75_method_2_code 4 = .ok (.ifnonnull 7, 3) := by decide +kernel
theorem own_d_prog_75_method_2_7 : decode prog_75_method_2_code 7 = .ok (.aconst_null, 1) := by decide +kernel
theorem own_d_prog_75_method_2_8 : decode prog_75_method_2_code 8 = .ok (.goto 13, 3) := by decide +kernel
theorem own_d_prog_75_method_2_21 : decode prog_75_method_2_code 21 = .ok (.areturn, 1) := by decide +kernel
def Q_qyA (Z : State) (a : Addr) (h0 : Heap) (v_ : Option Value) (h : Heap) (L_ : List Loc) : Prop := v_ = some .null ∧ Fr Z.heap.size L_ ∧ (h = h0)
set_option maxRecDepth 65536 in
set_option maxHeartbeats 40000000 in
theorem rm_qyA (l : Launch) (Z : State) (a0 : Array Value) (hw : ∀ d ∈ tables_1, d.before a0 Z = true) (ws : List Jvm.Cond) (a : Addr) (h0 : Heap) (O : Ext Z.heap h0) (F : Fld Z h0 a "com/example/trailcaster/trailcaster/model/ParticipantObject" "query" "[B" .null) :
    MetFree l (⟨"com/example/trailcaster/trailcaster/model/ParticipantObject", "query", "()[B"⟩ : MethodName) (head1 (Jvm.Cond.code (⟨"com/example/trailcaster/trailcaster/model/ParticipantObject", "query", "()[B"⟩ : MethodName) prog_75_method_2_code 1 (some (.array .byte)) :: ws) ({ frames := 0, cells := 0, slots := 0, locals := 0 } : Room)) (fun a_ U_ => a_ = #[(.ref a)] ∧ Z.Warmed39 U_.vm ∧ U_.heap = h0) (fun _ _ _ _ _ => True) (fun _ U_ o_ U2_ => ∃ v_ L_, o_ = .returned v_ ∧ Q_qyA Z a h0 v_ U2_.heap L_ ∧ FrameEnd U_ o_ U2_ L_ ({ frames := 0, cells := 0, slots := 0, locals := 0 } : Room).cells ({ frames := 0, cells := 0, slots := 0, locals := 0 } : Room).slots) := by
  refine MetFree.of_bodySF (plainFor_of_name own_pn12) hisR ?_
  intro p e s m args below meth c s₁ Bd hml0 hP hK
  obtain ⟨rfl, hZ, hh⟩ := hP
  have hx := Bd.exec
  have hby := Bd.bytes
  have hml : c.maxLocals = 1 := hml0
  have hown : s.vm.findClass "com/example/trailcaster/trailcaster/model/ParticipantObject" = some m.cls := findClass_of_methodNamed Bd.named
  have hnm := (name_of_methodNamed Bd.named Bd.method).1
  have X0 : Stand p l e ({ frames := 0, cells := 0, slots := 0, locals := 0 } : Room) s m #[(.ref a)] below meth c s₁ [] 0 0 := Stand.of_body Bd
  have e0 : s₁.heap = h0 := by rw [← hh, Bd.state]; rfl
  have N0 := Fr.nil Z.heap.size
  show own_G p e below (fun o_ s₂ => ∃ v_ L_, o_ = .returned v_ ∧ Q_qyA Z a h0 v_ s₂.heap L_ ∧ FrameEnd s o_ s₂ L_ ({ frames := 0, cells := 0, slots := 0, locals := 0 } : Room).cells ({ frames := 0, cells := 0, slots := 0, locals := 0 } : Room).slots) (s₁.setTop (entryFrame m #[(.ref a)] 1))
  refine own_go (s₁.setTop (mkF m 0 #[.val (.ref a)] [])) (fun t_ k_ => castTop (own_ef_qyA m a) k_) ?_
  refine own_go (s₁.setTop (mkF m 1 #[.val (.ref a)] [(.ref a)])) (fun t_ k_ => XS.aloadN X0.here hx rfl (hb hby own_d_prog_75_method_2_0) rfl rfl k_) ?_
  obtain ⟨T1, X1, e1, st1⟩ := getF X0 hx hZ hown (host := "") (Or.inl (hw _ (List.mem_of_getElem? (i := 210) rfl))) Via.refl e0 F (g := (mkF m 1 #[.val (.ref a)] [(.ref a)])) rfl rfl (hb hby own_d_prog_75_method_2_1)
  refine own_go (T1.setTop (mkF m 4 #[.val (.ref a)] [.null])) (fun t_ k_ => st1 _ k_) ?_
  refine own_go (T1.setTop (mkF m 7 #[.val (.ref a)] [])) (fun t_ k_ => XS.ifnonnullNo X1.here hx rfl (hb hby own_d_prog_75_method_2_4) rfl k_) ?_
  refine own_go (T1.setTop (mkF m 8 #[.val (.ref a)] [.null])) (fun t_ k_ => XS.aconstNull X1.here hx rfl (hb hby own_d_prog_75_method_2_7) k_) ?_
  refine own_go (T1.setTop (mkF m 21 #[.val (.ref a)] [.null])) (fun t_ k_ => XS.goto X1.here hx rfl (pc0 := 8) (pc' := 21) rfl (hb hby own_d_prog_75_method_2_8) (by decide) (by decide) k_) ?_
  obtain ⟨fs, hr, hrun, hended, hW, hsame⟩ := X1.leave (v := some .null) (fun h => by rw [Bd.returns] at h; cases h)
  refine ⟨_, _, Jvm.RoadKit.retOut X1 hx Bd.returns rfl (Or.inr (Or.inr (Or.inr (Or.inr ⟨rfl, rfl, rfl⟩)))) (hb hby own_d_prog_75_method_2_21) hr, hrun, hended, _, _, rfl, ?_, ⟨_, rfl⟩, hW, hsame.mono (by decide) (by decide)⟩
  show Q_qyA Z a h0 _ T1.heap _
  exact ⟨rfl, N0, e1⟩
theorem own_ef_qyB (m : MethodId) (a : Addr) : entryFrame m #[(.ref a)] 1 = mkF m 0 #[.val (.ref a)] [] := by first | (simp [entryFrame, mkF, argsToLocals, Value.category]; done) | rfl
theorem own_d_prog_75_method_2_11 : decode prog_75_method_2_code 11 = .ok (.aload_n 0, 1) := by decide +kernel
theorem own_d_prog_75_method_2_12 : decode prog_75_method_2_code 12 = .ok (.getfield 62, 3) := by decide +kernel
theorem own_d_prog_75_method_2_15 : decode prog_75_method_2_code 15 = .ok (.invokevirtual 36, 3) := by decide +kernel
theorem own_d_prog_75_method_2_18 : decode prog_75_method_2_code 18 = .ok (.checkcast 37, 3) := by decide +kernel
def Q_qyB (Z : State) (a : Addr) (b : Addr) (kq : ClassId) (z : Int32) (qs : List Value) (h0 : Heap) (v_ : Option Value) (h : Heap) (L_ : List Loc) : Prop := ∃ (r : Addr), v_ = some (.ref r) ∧ Fr Z.heap.size L_ ∧ (Keep h0 h [] ∧ h0.size ≤ r ∧ Arv Z h r kq .byte z qs (.int 0))
set_option maxRecDepth 65536 in
set_option maxHeartbeats 40000000 in
theorem rm_qyB (l : Launch) (Z : State) (a0 : Array Value) (hw : ∀ d ∈ tables_1, d.before a0 Z = true) (ws : List Jvm.Cond) (a : Addr) (b : Addr) (kq : ClassId) (z : Int32) (qs : List Value) (h0 : Heap) (O : Ext Z.heap h0) (F : Fld Z h0 a "com/example/trailcaster/trailcaster/model/ParticipantObject" "query" "[B" (.ref b)) (Xb : Exa Z h0 b "[B") (Ab : Arv Z h0 b kq .byte z qs (.int 0)) (hz : z.toNatClampNeg ≤ 4) :
    MetFree l (⟨"com/example/trailcaster/trailcaster/model/ParticipantObject", "query", "()[B"⟩ : MethodName) (head1 (Jvm.Cond.code (⟨"com/example/trailcaster/trailcaster/model/ParticipantObject", "query", "()[B"⟩ : MethodName) prog_75_method_2_code 1 (some (.array .byte)) :: ws) ({ frames := 1, cells := 1, slots := 4, locals := 14 } : Room)) (fun a_ U_ => a_ = #[(.ref a)] ∧ Z.Warmed39 U_.vm ∧ U_.heap = h0) (fun _ _ _ _ _ => True) (fun _ U_ o_ U2_ => ∃ v_ L_, o_ = .returned v_ ∧ Q_qyB Z a b kq z qs h0 v_ U2_.heap L_ ∧ FrameEnd U_ o_ U2_ L_ ({ frames := 1, cells := 1, slots := 4, locals := 14 } : Room).cells ({ frames := 1, cells := 1, slots := 4, locals := 14 } : Room).slots) := by
  refine MetFree.of_bodySF (plainFor_of_name own_pn12) hisR ?_
  intro p e s m args below meth c s₁ Bd hml0 hP hK
  obtain ⟨rfl, hZ, hh⟩ := hP
  have hx := Bd.exec
  have hby := Bd.bytes
  have hml : c.maxLocals = 1 := hml0
  have hown : s.vm.findClass "com/example/trailcaster/trailcaster/model/ParticipantObject" = some m.cls := findClass_of_methodNamed Bd.named
  have hnm := (name_of_methodNamed Bd.named Bd.method).1
  have X0 : Stand p l e ({ frames := 1, cells := 1, slots := 4, locals := 14 } : Room) s m #[(.ref a)] below meth c s₁ [] 0 0 := Stand.of_body Bd
  have e0 : s₁.heap = h0 := by rw [← hh, Bd.state]; rfl
  have N0 := Fr.nil Z.heap.size
  show own_G p e below (fun o_ s₂ => ∃ v_ L_, o_ = .returned v_ ∧ Q_qyB Z a b kq z qs h0 v_ s₂.heap L_ ∧ FrameEnd s o_ s₂ L_ ({ frames := 1, cells := 1, slots := 4, locals := 14 } : Room).cells ({ frames := 1, cells := 1, slots := 4, locals := 14 } : Room).slots) (s₁.setTop (entryFrame m #[(.ref a)] 1))
  refine own_go (s₁.setTop (mkF m 0 #[.val (.ref a)] [])) (fun t_ k_ => castTop (own_ef_qyB m a) k_) ?_
  refine own_go (s₁.setTop (mkF m 1 #[.val (.ref a)] [(.ref a)])) (fun t_ k_ => XS.aloadN X0.here hx rfl (hb hby own_d_prog_75_method_2_0) rfl rfl k_) ?_
  obtain ⟨T1, X1, e1, st1⟩ := getF X0 hx hZ hown (host := "") (Or.inl (hw _ (List.mem_of_getElem? (i := 210) rfl))) Via.refl e0 F (g := (mkF m 1 #[.val (.ref a)] [(.ref a)])) rfl rfl (hb hby own_d_prog_75_method_2_1)
  refine own_go (T1.setTop (mkF m 4 #[.val (.ref a)] [(.ref b)])) (fun t_ k_ => st1 _ k_) ?_
  refine own_go (T1.setTop (mkF m 11 #[.val (.ref a)] [])) (fun t_ k_ => XS.ifnonnullYes X1.here hx rfl (pc0 := 4) (pc' := 11) rfl (hb hby own_d_prog_75_method_2_4) rfl (by decide) (by decide) k_) ?_
  refine own_go (T1.setTop (mkF m 12 #[.val (.ref a)] [(.ref a)])) (fun t_ k_ => XS.aloadN X1.here hx rfl (hb hby own_d_prog_75_method_2_11) rfl rfl k_) ?_
  obtain ⟨T2, X2, e2, st2⟩ := getF X1 hx hZ hown (host := "") (Or.inl (hw _ (List.mem_of_getElem? (i := 210) rfl))) Via.refl e1 F (g := (mkF m 12 #[.val (.ref a)] [(.ref a)])) rfl rfl (hb hby own_d_prog_75_method_2_12)
  refine own_go (T2.setTop (mkF m 15 #[.val (.ref a)] [(.ref b)])) (fun t_ k_ => st2 _ k_) ?_
  obtain ⟨T3, h3, X3, e3, E3, A3, Xa3, st3⟩ := cloneH X2 hx hZ hown (hw _ (List.mem_of_getElem? (i := 93) rfl)) (hw _ (List.mem_of_getElem? (i := 94) rfl)) (hw _ (List.mem_of_getElem? (i := 98) rfl)) (hw _ (List.mem_of_getElem? (i := 96) rfl)) (hw _ (List.mem_of_getElem? (i := 97) rfl)) (hw _ (List.mem_of_getElem? (i := 99) rfl)) e2 (Arv.arh Ab) Xb (g := (mkF m 15 #[.val (.ref a)] [(.ref b)])) rfl (by rw [hml]; rfl) rfl (hb hby own_d_prog_75_method_2_15) (by decide) (W := 0) (cap := 4) (by show 2 * 0 + _ ≤ _; exact Nat.le_of_eq rfl) (by decide) hz (by decide) (by decide)
  obtain ⟨b3, g3⟩ : ∃ z, z = h0.size := ⟨_, rfl⟩
  rw [← g3] at A3 Xa3 st3
  have ge_b3 : Z.heap.size ≤ b3 := Nat.le_trans O.1 (Nat.le_of_eq g3.symm)
  have sz_b3 : h0.size ≤ b3 := Nat.le_trans (Keep.refl h0 []).1 (Nat.le_of_eq g3.symm)
  have K3 : Keep h0 h3 [] := (Keep.refl h0 []).ext E3
  have O3 := own_ext O E3
  have V3 : Arv Z h3 b3 kq .byte z qs (.int (0 : Int32)) := A3
  refine own_go (T3.setTop (mkF m 18 #[.val (.ref a)] [(.ref b3)])) (fun t_ k_ => st3 _ k_) ?_
  obtain ⟨T4, X4, e4, st4⟩ := castY X3 hx hZ hown (hw _ (List.mem_of_getElem? (i := 100) rfl)) e3 (Ins.self Xa3) (g := (mkF m 18 #[.val (.ref a)] [(.ref b3)])) rfl rfl (hb hby own_d_prog_75_method_2_18)
  refine own_go (T4.setTop (mkF m 21 #[.val (.ref a)] [(.ref b3)])) (fun t_ k_ => st4 _ k_) ?_
  obtain ⟨fs, hr, hrun, hended, hW, hsame⟩ := X4.leave (v := some (.ref b3)) (fun h => by rw [Bd.returns] at h; cases h)
  refine ⟨_, _, Jvm.RoadKit.retOut X4 hx Bd.returns rfl (Or.inr (Or.inr (Or.inr (Or.inr ⟨rfl, rfl, rfl⟩)))) (hb hby own_d_prog_75_method_2_21) hr, hrun, hended, _, _, rfl, ?_, ⟨_, rfl⟩, hW, hsame.mono (by decide) (by decide)⟩
  show Q_qyB Z a b kq z qs h0 _ T4.heap _
  rw [show T4.heap = h3 from e4]
  exact ⟨_, rfl, N0, K3, sz_b3, V3⟩
theorem own_pn13 : plainName "com/example/trailcaster/trailcaster/model/ParticipantObjectQueryPinLaw" = true := by first | (simp [plainName, overriddenIn]; done) | decide +kernel
theorem own_ef_seti (m : MethodId) (b : Addr) (i : Int32) (v : Int32) : entryFrame m #[(.ref b), (.int i), (.int v)] 3 = mkF m 0 #[.val (.ref b), .val (.int i), .val (.int v)] [] := by first | (simp [entryFrame, mkF, argsToLocals, Value.category]; done) | rfl
theorem own_d_method_3_0 : decode method_3_code 0 = .ok (.iload_n 1, 1) := by decide +kernel
theorem own_d_method_3_1 : decode method_3_code 1 = .ok (.aload_n 0, 1) := by decide +kernel
theorem own_d_method_3_2 : decode method_3_code 2 = .ok (.arraylength, 1) := by decide +kernel
theorem own_d_method_3_3 : decode method_3_code 3 = .ok (.if_icmp .ge 8, 3) := by decide +kernel
theorem own_d_method_3_6 : decode method_3_code 6 = .ok (.aload_n 0, 1) := by decide +kernel
theorem own_d_method_3_7 : decode method_3_code 7 = .ok (.iload_n 1, 1) := by decide +kernel
theorem own_d_method_3_8 : decode method_3_code 8 = .ok (.iload_n 2, 1) := by decide +kernel
theorem own_d_method_3_9 : decode method_3_code 9 = .ok (.i2b, 1) := by decide +kernel
theorem own_d_method_3_10 : decode method_3_code 10 = .ok (.bastore, 1) := by decide +kernel
theorem own_d_method_3_11 : decode method_3_code 11 = .ok (.return_, 1) := by decide +kernel
def Q_seti (Z : State) (b : Addr) (kq : ClassId) (z : Int32) (qs : List Value) (i : Int32) (j : Nat) (v : Int32) (h0 : Heap) (v_ : Option Value) (h : Heap) (L_ : List Loc) : Prop := v_ = none ∧ Fr Z.heap.size L_ ∧ (Keep h0 h [b] ∧ Arv Z h b kq .byte z (qs.set j (.int (nar .byte (v.toInt8.toInt32)))) (.int 0))
set_option maxRecDepth 65536 in
set_option maxHeartbeats 40000000 in
theorem rm_seti (l : Launch) (Z : State) (a0 : Array Value) (hw : ∀ d ∈ tables_1, d.before a0 Z = true) (ws : List Jvm.Cond) (b : Addr) (kq : ClassId) (z : Int32) (qs : List Value) (i : Int32) (j : Nat) (v : Int32) (h0 : Heap) (O : Ext Z.heap h0) (Ab : Arv Z h0 b kq .byte z qs (.int 0)) (hi0 : ¬ i < 0) (hi : i < z) (hj : i.toNatClampNeg = j) (hl : j < qs.length) (gb : Z.heap.size ≤ b) :
    MetFree l (⟨"com/example/trailcaster/trailcaster/model/ParticipantObjectQueryPinLaw", "set", "([BII)V"⟩ : MethodName) (head1 (Jvm.Cond.code (⟨"com/example/trailcaster/trailcaster/model/ParticipantObjectQueryPinLaw", "set", "([BII)V"⟩ : MethodName) method_3_code 3 none :: ws) ({ frames := 0, cells := 0, slots := 0, locals := 0 } : Room)) (fun a_ U_ => a_ = #[(.ref b), (.int i), (.int v)] ∧ Z.Warmed39 U_.vm ∧ U_.heap = h0) (fun _ _ _ _ _ => True) (fun _ U_ o_ U2_ => ∃ v_ L_, o_ = .returned v_ ∧ Q_seti Z b kq z qs i j v h0 v_ U2_.heap L_ ∧ FrameEnd U_ o_ U2_ L_ ({ frames := 0, cells := 0, slots := 0, locals := 0 } : Room).cells ({ frames := 0, cells := 0, slots := 0, locals := 0 } : Room).slots) := by
  refine MetFree.of_bodySF (plainFor_of_name own_pn13) hisR ?_
  intro p e s m args below meth c s₁ Bd hml0 hP hK
  obtain ⟨rfl, hZ, hh⟩ := hP
  have hx := Bd.exec
  have hby := Bd.bytes
  have hml : c.maxLocals = 3 := hml0
  have hown : s.vm.findClass "com/example/trailcaster/trailcaster/model/ParticipantObjectQueryPinLaw" = some m.cls := findClass_of_methodNamed Bd.named
  have hnm := (name_of_methodNamed Bd.named Bd.method).1
  have X0 : Stand p l e ({ frames := 0, cells := 0, slots := 0, locals := 0 } : Room) s m #[(.ref b), (.int i), (.int v)] below meth c s₁ [] 0 0 := Stand.of_body Bd
  have e0 : s₁.heap = h0 := by rw [← hh, Bd.state]; rfl
  have N0 := Fr.nil Z.heap.size
  show own_G p e below (fun o_ s₂ => ∃ v_ L_, o_ = .returned v_ ∧ Q_seti Z b kq z qs i j v h0 v_ s₂.heap L_ ∧ FrameEnd s o_ s₂ L_ ({ frames := 0, cells := 0, slots := 0, locals := 0 } : Room).cells ({ frames := 0, cells := 0, slots := 0, locals := 0 } : Room).slots) (s₁.setTop (entryFrame m #[(.ref b), (.int i), (.int v)] 3))
  refine own_go (s₁.setTop (mkF m 0 #[.val (.ref b), .val (.int i), .val (.int v)] [])) (fun t_ k_ => castTop (own_ef_seti m b i v) k_) ?_
  refine own_go (s₁.setTop (mkF m 1 #[.val (.ref b), .val (.int i), .val (.int v)] [(.int i)])) (fun t_ k_ => XS.iloadN X0.here hx rfl (hb hby own_d_method_3_0) rfl k_) ?_
  refine own_go (s₁.setTop (mkF m 2 #[.val (.ref b), .val (.int i), .val (.int v)] [(.ref b), (.int i)])) (fun t_ k_ => XS.aloadN X0.here hx rfl (hb hby own_d_method_3_1) rfl rfl k_) ?_
  obtain ⟨cl1, Ar1, q1, Sz1, Nz1, Hz1, Gz1⟩ := id (Ab)
  refine own_go (s₁.setTop (mkF m 3 #[.val (.ref b), .val (.int i), .val (.int v)] [(.int z), (.int i)])) (fun t_ k_ => X0.arraylength hx (by rw [e0]; exact Ar1.1) (State.isArrayOf_alike hZ.alike Ar1.2.1) (g := (mkF m 2 #[.val (.ref b), .val (.int i), .val (.int v)] [(.ref b), (.int i)])) rfl rfl (hb hby own_d_method_3_2) _ (by rw [len_of Sz1 Nz1]; exact k_)) ?_
  refine own_go (s₁.setTop (mkF m 6 #[.val (.ref b), .val (.int i), .val (.int v)] [])) (fun t_ k_ => XS.icmpNo X0.here hx rfl (hb hby own_d_method_3_3) rfl (tlt hi).2.1 k_) ?_
  refine own_go (s₁.setTop (mkF m 7 #[.val (.ref b), .val (.int i), .val (.int v)] [(.ref b)])) (fun t_ k_ => XS.aloadN X0.here hx rfl (hb hby own_d_method_3_6) rfl rfl k_) ?_
  refine own_go (s₁.setTop (mkF m 8 #[.val (.ref b), .val (.int i), .val (.int v)] [(.int i), (.ref b)])) (fun t_ k_ => XS.iloadN X0.here hx rfl (hb hby own_d_method_3_7) rfl k_) ?_
  refine own_go (s₁.setTop (mkF m 9 #[.val (.ref b), .val (.int i), .val (.int v)] [(.int v), (.int i), (.ref b)])) (fun t_ k_ => XS.iloadN X0.here hx rfl (hb hby own_d_method_3_8) rfl k_) ?_
  refine own_go (s₁.setTop (mkF m 10 #[.val (.ref b), .val (.int i), .val (.int v)] [(.int (v.toInt8.toInt32)), (.int i), (.ref b)])) (fun t_ k_ => XS.i2b X0.here hx rfl (hb hby own_d_method_3_9) rfl k_) ?_
  obtain ⟨cl2, Ar2, q2, Sz2, Nz2, Hz2, Gz2⟩ := id (Ab)
  have hin2 : ¬ (i < 0 ∨ cl2.slots.size ≤ (i).toNatClampNeg) := inb_of Sz2 ⟨hi0, hi⟩
  obtain ⟨T2, h2, X2, e2, W2, st2⟩ := stB X0 hx hZ e0 Ar2 (j := i) hin2  (g := (mkF m 10 #[.val (.ref b), .val (.int i), .val (.int v)] [(.int (v.toInt8.toInt32)), (.int i), (.ref b)])) rfl rfl (hb hby own_d_method_3_10)
  have V2 : Arv Z h2 b kq .byte z (qs.set j (.int (nar .byte (v.toInt8.toInt32)))) (.int 0) := Arv.set Ar2 q2 Sz2 Nz2 Hz2 Gz2 (fits_nar_byte _) W2 j hj hl
  have K2 : Keep h0 h2 [b] := (Keep.refl h0 [b]).wr W2 (Or.inl (List.mem_of_getElem? (i := 0) rfl))
  have N2 := Fr.snoc X2 N0 gb
  have O2 := own_extW O W2 gb
  refine own_go (T2.setTop (mkF m 11 #[.val (.ref b), .val (.int i), .val (.int v)] [])) (fun t_ k_ => st2 _ k_) ?_
  obtain ⟨fs, hr, hrun, hended, hW, hsame⟩ := X2.leave (v := none) (fun _ => rfl)
  refine ⟨_, _, X2.returnOut hx Bd.returns (hb hby own_d_method_3_11) hr, hrun, hended, _, _, rfl, ?_, ⟨_, rfl⟩, hW, hsame.mono (by decide) (by decide)⟩
  show Q_seti Z b kq z qs i j v h0 _ T2.heap _
  rw [show T2.heap = h2 from e2]
  exact ⟨rfl, N2, K2, V2⟩
theorem own_ef_seto (m : MethodId) (b : Addr) (i : Int32) (v : Int32) : entryFrame m #[(.ref b), (.int i), (.int v)] 3 = mkF m 0 #[.val (.ref b), .val (.int i), .val (.int v)] [] := by first | (simp [entryFrame, mkF, argsToLocals, Value.category]; done) | rfl
def Q_seto (Z : State) (b : Addr) (kq : ClassId) (z : Int32) (qs : List Value) (i : Int32) (v : Int32) (h0 : Heap) (v_ : Option Value) (h : Heap) (L_ : List Loc) : Prop := v_ = none ∧ Fr Z.heap.size L_ ∧ (h = h0)
set_option maxRecDepth 65536 in
set_option maxHeartbeats 40000000 in
theorem rm_seto (l : Launch) (Z : State) (a0 : Array Value) (hw : ∀ d ∈ tables_1, d.before a0 Z = true) (ws : List Jvm.Cond) (b : Addr) (kq : ClassId) (z : Int32) (qs : List Value) (i : Int32) (v : Int32) (h0 : Heap) (O : Ext Z.heap h0) (Ab : Arv Z h0 b kq .byte z qs (.int 0)) (hi : ¬ i < z) :
    MetFree l (⟨"com/example/trailcaster/trailcaster/model/ParticipantObjectQueryPinLaw", "set", "([BII)V"⟩ : MethodName) (head1 (Jvm.Cond.code (⟨"com/example/trailcaster/trailcaster/model/ParticipantObjectQueryPinLaw", "set", "([BII)V"⟩ : MethodName) method_3_code 3 none :: ws) ({ frames := 0, cells := 0, slots := 0, locals := 0 } : Room)) (fun a_ U_ => a_ = #[(.ref b), (.int i), (.int v)] ∧ Z.Warmed39 U_.vm ∧ U_.heap = h0) (fun _ _ _ _ _ => True) (fun _ U_ o_ U2_ => ∃ v_ L_, o_ = .returned v_ ∧ Q_seto Z b kq z qs i v h0 v_ U2_.heap L_ ∧ FrameEnd U_ o_ U2_ L_ ({ frames := 0, cells := 0, slots := 0, locals := 0 } : Room).cells ({ frames := 0, cells := 0, slots := 0, locals := 0 } : Room).slots) := by
  refine MetFree.of_bodySF (plainFor_of_name own_pn13) hisR ?_
  intro p e s m args below meth c s₁ Bd hml0 hP hK
  obtain ⟨rfl, hZ, hh⟩ := hP
  have hx := Bd.exec
  have hby := Bd.bytes
  have hml : c.maxLocals = 3 := hml0
  have hown : s.vm.findClass "com/example/trailcaster/trailcaster/model/ParticipantObjectQueryPinLaw" = some m.cls := findClass_of_methodNamed Bd.named
  have hnm := (name_of_methodNamed Bd.named Bd.method).1
  have X0 : Stand p l e ({ frames := 0, cells := 0, slots := 0, locals := 0 } : Room) s m #[(.ref b), (.int i), (.int v)] below meth c s₁ [] 0 0 := Stand.of_body Bd
  have e0 : s₁.heap = h0 := by rw [← hh, Bd.state]; rfl
  have N0 := Fr.nil Z.heap.size
  show own_G p e below (fun o_ s₂ => ∃ v_ L_, o_ = .returned v_ ∧ Q_seto Z b kq z qs i v h0 v_ s₂.heap L_ ∧ FrameEnd s o_ s₂ L_ ({ frames := 0, cells := 0, slots := 0, locals := 0 } : Room).cells ({ frames := 0, cells := 0, slots := 0, locals := 0 } : Room).slots) (s₁.setTop (entryFrame m #[(.ref b), (.int i), (.int v)] 3))
  refine own_go (s₁.setTop (mkF m 0 #[.val (.ref b), .val (.int i), .val (.int v)] [])) (fun t_ k_ => castTop (own_ef_seto m b i v) k_) ?_
  refine own_go (s₁.setTop (mkF m 1 #[.val (.ref b), .val (.int i), .val (.int v)] [(.int i)])) (fun t_ k_ => XS.iloadN X0.here hx rfl (hb hby own_d_method_3_0) rfl k_) ?_
  refine own_go (s₁.setTop (mkF m 2 #[.val (.ref b), .val (.int i), .val (.int v)] [(.ref b), (.int i)])) (fun t_ k_ => XS.aloadN X0.here hx rfl (hb hby own_d_method_3_1) rfl rfl k_) ?_
  obtain ⟨cl1, Ar1, q1, Sz1, Nz1, Hz1, Gz1⟩ := id (Ab)
  refine own_go (s₁.setTop (mkF m 3 #[.val (.ref b), .val (.int i), .val (.int v)] [(.int z), (.int i)])) (fun t_ k_ => X0.arraylength hx (by rw [e0]; exact Ar1.1) (State.isArrayOf_alike hZ.alike Ar1.2.1) (g := (mkF m 2 #[.val (.ref b), .val (.int i), .val (.int v)] [(.ref b), (.int i)])) rfl rfl (hb hby own_d_method_3_2) _ (by rw [len_of Sz1 Nz1]; exact k_)) ?_
  refine own_go (s₁.setTop (mkF m 11 #[.val (.ref b), .val (.int i), .val (.int v)] [])) (fun t_ k_ => XS.icmpYes X0.here hx rfl (pc0 := 3) (pc' := 11) rfl (hb hby own_d_method_3_3) rfl (flt hi).2.1 (by decide) (by decide) k_) ?_
  obtain ⟨fs, hr, hrun, hended, hW, hsame⟩ := X0.leave (v := none) (fun _ => rfl)
  refine ⟨_, _, X0.returnOut hx Bd.returns (hb hby own_d_method_3_11) hr, hrun, hended, _, _, rfl, ?_, ⟨_, rfl⟩, hW, hsame.mono (by decide) (by decide)⟩
  show Q_seto Z b kq z qs i v h0 _ s₁.heap _
  exact ⟨rfl, N0, e0⟩
theorem own_ef_flipi (m : MethodId) (b : Addr) (i : Int32) : entryFrame m #[(.ref b), (.int i)] 2 = mkF m 0 #[.val (.ref b), .val (.int i)] [] := by first | (simp [entryFrame, mkF, argsToLocals, Value.category]; done) | rfl
theorem own_d_method_4_0 : decode method_4_code 0 = .ok (.iload_n 1, 1) := by decide +kernel
theorem own_d_method_4_1 : decode method_4_code 1 = .ok (.aload_n 0, 1) := by decide +kernel
theorem own_d_method_4_2 : decode method_4_code 2 = .ok (.arraylength, 1) := by decide +kernel
theorem own_d_method_4_3 : decode method_4_code 3 = .ok (.if_icmp .ge 12, 3) := by decide +kernel
theorem own_d_method_4_6 : decode method_4_code 6 = .ok (.aload_n 0, 1) := by decide +kernel
theorem own_d_method_4_7 : decode method_4_code 7 = .ok (.iload_n 1, 1) := by decide +kernel
theorem own_d_method_4_8 : decode method_4_code 8 = .ok (.aload_n 0, 1) := by decide +kernel
theorem own_d_method_4_9 : decode method_4_code 9 = .ok (.iload_n 1, 1) := by decide +kernel
theorem own_d_method_4_10 : decode method_4_code 10 = .ok (.baload, 1) := by decide +kernel
theorem own_d_method_4_11 : decode method_4_code 11 = .ok (.iconst (-1), 1) := by decide +kernel
theorem own_d_method_4_12 : decode method_4_code 12 = .ok (.ixor, 1) := by decide +kernel
theorem own_d_method_4_13 : decode method_4_code 13 = .ok (.i2b, 1) := by decide +kernel
theorem own_d_method_4_14 : decode method_4_code 14 = .ok (.bastore, 1) := by decide +kernel
theorem own_d_method_4_15 : decode method_4_code 15 = .ok (.return_, 1) := by decide +kernel
def Q_flipi (Z : State) (b : Addr) (kq : ClassId) (z : Int32) (qs : List Value) (i : Int32) (j : Nat) (x : Int32) (h0 : Heap) (v_ : Option Value) (h : Heap) (L_ : List Loc) : Prop := v_ = none ∧ Fr Z.heap.size L_ ∧ (Keep h0 h [b] ∧ Arv Z h b kq .byte z (qs.set j (.int (nar .byte (((x ^^^ (-1 : Int32)).toInt8.toInt32))))) (.int 0))
set_option maxRecDepth 65536 in
set_option maxHeartbeats 40000000 in
theorem rm_flipi (l : Launch) (Z : State) (a0 : Array Value) (hw : ∀ d ∈ tables_1, d.before a0 Z = true) (ws : List Jvm.Cond) (b : Addr) (kq : ClassId) (z : Int32) (qs : List Value) (i : Int32) (j : Nat) (x : Int32) (h0 : Heap) (O : Ext Z.heap h0) (Ab : Arv Z h0 b kq .byte z qs (.int 0)) (hi0 : ¬ i < 0) (hi : i < z) (hj : i.toNatClampNeg = j) (hl : j < qs.length) (gb : Z.heap.size ≤ b) (hv : qs.getD j (.int 0) = .int x) :
    MetFree l (⟨"com/example/trailcaster/trailcaster/model/ParticipantObjectQueryPinLaw", "flip", "([BI)V"⟩ : MethodName) (head1 (Jvm.Cond.code (⟨"com/example/trailcaster/trailcaster/model/ParticipantObjectQueryPinLaw", "flip", "([BI)V"⟩ : MethodName) method_4_code 2 none :: ws) ({ frames := 0, cells := 0, slots := 0, locals := 0 } : Room)) (fun a_ U_ => a_ = #[(.ref b), (.int i)] ∧ Z.Warmed39 U_.vm ∧ U_.heap = h0) (fun _ _ _ _ _ => True) (fun _ U_ o_ U2_ => ∃ v_ L_, o_ = .returned v_ ∧ Q_flipi Z b kq z qs i j x h0 v_ U2_.heap L_ ∧ FrameEnd U_ o_ U2_ L_ ({ frames := 0, cells := 0, slots := 0, locals := 0 } : Room).cells ({ frames := 0, cells := 0, slots := 0, locals := 0 } : Room).slots) := by
  refine MetFree.of_bodySF (plainFor_of_name own_pn13) hisR ?_
  intro p e s m args below meth c s₁ Bd hml0 hP hK
  obtain ⟨rfl, hZ, hh⟩ := hP
  have hx := Bd.exec
  have hby := Bd.bytes
  have hml : c.maxLocals = 2 := hml0
  have hown : s.vm.findClass "com/example/trailcaster/trailcaster/model/ParticipantObjectQueryPinLaw" = some m.cls := findClass_of_methodNamed Bd.named
  have hnm := (name_of_methodNamed Bd.named Bd.method).1
  have X0 : Stand p l e ({ frames := 0, cells := 0, slots := 0, locals := 0 } : Room) s m #[(.ref b), (.int i)] below meth c s₁ [] 0 0 := Stand.of_body Bd
  have e0 : s₁.heap = h0 := by rw [← hh, Bd.state]; rfl
  have N0 := Fr.nil Z.heap.size
  show own_G p e below (fun o_ s₂ => ∃ v_ L_, o_ = .returned v_ ∧ Q_flipi Z b kq z qs i j x h0 v_ s₂.heap L_ ∧ FrameEnd s o_ s₂ L_ ({ frames := 0, cells := 0, slots := 0, locals := 0 } : Room).cells ({ frames := 0, cells := 0, slots := 0, locals := 0 } : Room).slots) (s₁.setTop (entryFrame m #[(.ref b), (.int i)] 2))
  refine own_go (s₁.setTop (mkF m 0 #[.val (.ref b), .val (.int i)] [])) (fun t_ k_ => castTop (own_ef_flipi m b i) k_) ?_
  refine own_go (s₁.setTop (mkF m 1 #[.val (.ref b), .val (.int i)] [(.int i)])) (fun t_ k_ => XS.iloadN X0.here hx rfl (hb hby own_d_method_4_0) rfl k_) ?_
  refine own_go (s₁.setTop (mkF m 2 #[.val (.ref b), .val (.int i)] [(.ref b), (.int i)])) (fun t_ k_ => XS.aloadN X0.here hx rfl (hb hby own_d_method_4_1) rfl rfl k_) ?_
  obtain ⟨cl1, Ar1, q1, Sz1, Nz1, Hz1, Gz1⟩ := id (Ab)
  refine own_go (s₁.setTop (mkF m 3 #[.val (.ref b), .val (.int i)] [(.int z), (.int i)])) (fun t_ k_ => X0.arraylength hx (by rw [e0]; exact Ar1.1) (State.isArrayOf_alike hZ.alike Ar1.2.1) (g := (mkF m 2 #[.val (.ref b), .val (.int i)] [(.ref b), (.int i)])) rfl rfl (hb hby own_d_method_4_2) _ (by rw [len_of Sz1 Nz1]; exact k_)) ?_
  refine own_go (s₁.setTop (mkF m 6 #[.val (.ref b), .val (.int i)] [])) (fun t_ k_ => XS.icmpNo X0.here hx rfl (hb hby own_d_method_4_3) rfl (tlt hi).2.1 k_) ?_
  refine own_go (s₁.setTop (mkF m 7 #[.val (.ref b), .val (.int i)] [(.ref b)])) (fun t_ k_ => XS.aloadN X0.here hx rfl (hb hby own_d_method_4_6) rfl rfl k_) ?_
  refine own_go (s₁.setTop (mkF m 8 #[.val (.ref b), .val (.int i)] [(.int i), (.ref b)])) (fun t_ k_ => XS.iloadN X0.here hx rfl (hb hby own_d_method_4_7) rfl k_) ?_
  refine own_go (s₁.setTop (mkF m 9 #[.val (.ref b), .val (.int i)] [(.ref b), (.int i), (.ref b)])) (fun t_ k_ => XS.aloadN X0.here hx rfl (hb hby own_d_method_4_8) rfl rfl k_) ?_
  refine own_go (s₁.setTop (mkF m 10 #[.val (.ref b), .val (.int i)] [(.int i), (.ref b), (.int i), (.ref b)])) (fun t_ k_ => XS.iloadN X0.here hx rfl (hb hby own_d_method_4_9) rfl k_) ?_
  obtain ⟨cl2, Ar2, q2, Sz2, Nz2, Hz2, Gz2⟩ := id (Ab)
  have hin2 : ¬ (i < 0 ∨ cl2.slots.size ≤ (i).toNatClampNeg) := inb_of Sz2 ⟨hi0, hi⟩
  have hat2 : cl2.slots[(i).toNatClampNeg]? = some (.int x) := Hz2.at hin2 (by rw [hj]; exact hv)
  refine own_go (s₁.setTop (mkF m 11 #[.val (.ref b), .val (.int i)] [(.int x), (.int i), (.ref b)])) (fun t_ k_ => X0.baloadBytes hx (j := i) (v := (.int x)) (by rw [e0]; exact Ar2.1) (State.isArrayOf_alike hZ.alike Ar2.2.1) Ar2.2.2 hin2 hat2 (g := (mkF m 10 #[.val (.ref b), .val (.int i)] [(.int i), (.ref b), (.int i), (.ref b)])) rfl rfl (hb hby own_d_method_4_10) _ k_) ?_
  refine own_go (s₁.setTop (mkF m 12 #[.val (.ref b), .val (.int i)] [(.int (-1 : Int32)), (.int x), (.int i), (.ref b)])) (fun t_ k_ => XS.iconst X0.here hx rfl (hb hby own_d_method_4_11) k_) ?_
  refine own_go (s₁.setTop (mkF m 13 #[.val (.ref b), .val (.int i)] [(.int (x ^^^ (-1 : Int32))), (.int i), (.ref b)])) (fun t_ k_ => XS.ixor X0.here hx rfl (hb hby own_d_method_4_12) rfl k_) ?_
  refine own_go (s₁.setTop (mkF m 14 #[.val (.ref b), .val (.int i)] [(.int ((x ^^^ (-1 : Int32)).toInt8.toInt32)), (.int i), (.ref b)])) (fun t_ k_ => XS.i2b X0.here hx rfl (hb hby own_d_method_4_13) rfl k_) ?_
  obtain ⟨cl3, Ar3, q3, Sz3, Nz3, Hz3, Gz3⟩ := id (Ab)
  have hin3 : ¬ (i < 0 ∨ cl3.slots.size ≤ (i).toNatClampNeg) := inb_of Sz3 ⟨hi0, hi⟩
  obtain ⟨T3, h3, X3, e3, W3, st3⟩ := stB X0 hx hZ e0 Ar3 (j := i) hin3  (g := (mkF m 14 #[.val (.ref b), .val (.int i)] [(.int ((x ^^^ (-1 : Int32)).toInt8.toInt32)), (.int i), (.ref b)])) rfl rfl (hb hby own_d_method_4_14)
  have V3 : Arv Z h3 b kq .byte z (qs.set j (.int (nar .byte ((x ^^^ (-1 : Int32)).toInt8.toInt32)))) (.int 0) := Arv.set Ar3 q3 Sz3 Nz3 Hz3 Gz3 (fits_nar_byte _) W3 j hj hl
  have K3 : Keep h0 h3 [b] := (Keep.refl h0 [b]).wr W3 (Or.inl (List.mem_of_getElem? (i := 0) rfl))
  have N3 := Fr.snoc X3 N0 gb
  have O3 := own_extW O W3 gb
  refine own_go (T3.setTop (mkF m 15 #[.val (.ref b), .val (.int i)] [])) (fun t_ k_ => st3 _ k_) ?_
  obtain ⟨fs, hr, hrun, hended, hW, hsame⟩ := X3.leave (v := none) (fun _ => rfl)
  refine ⟨_, _, X3.returnOut hx Bd.returns (hb hby own_d_method_4_15) hr, hrun, hended, _, _, rfl, ?_, ⟨_, rfl⟩, hW, hsame.mono (by decide) (by decide)⟩
  show Q_flipi Z b kq z qs i j x h0 _ T3.heap _
  rw [show T3.heap = h3 from e3]
  exact ⟨rfl, N3, K3, V3⟩
theorem own_ef_flipo (m : MethodId) (b : Addr) (i : Int32) : entryFrame m #[(.ref b), (.int i)] 2 = mkF m 0 #[.val (.ref b), .val (.int i)] [] := by first | (simp [entryFrame, mkF, argsToLocals, Value.category]; done) | rfl
def Q_flipo (Z : State) (b : Addr) (kq : ClassId) (z : Int32) (qs : List Value) (i : Int32) (h0 : Heap) (v_ : Option Value) (h : Heap) (L_ : List Loc) : Prop := v_ = none ∧ Fr Z.heap.size L_ ∧ (h = h0)
set_option maxRecDepth 65536 in
set_option maxHeartbeats 40000000 in
theorem rm_flipo (l : Launch) (Z : State) (a0 : Array Value) (hw : ∀ d ∈ tables_1, d.before a0 Z = true) (ws : List Jvm.Cond) (b : Addr) (kq : ClassId) (z : Int32) (qs : List Value) (i : Int32) (h0 : Heap) (O : Ext Z.heap h0) (Ab : Arv Z h0 b kq .byte z qs (.int 0)) (hi : ¬ i < z) :
    MetFree l (⟨"com/example/trailcaster/trailcaster/model/ParticipantObjectQueryPinLaw", "flip", "([BI)V"⟩ : MethodName) (head1 (Jvm.Cond.code (⟨"com/example/trailcaster/trailcaster/model/ParticipantObjectQueryPinLaw", "flip", "([BI)V"⟩ : MethodName) method_4_code 2 none :: ws) ({ frames := 0, cells := 0, slots := 0, locals := 0 } : Room)) (fun a_ U_ => a_ = #[(.ref b), (.int i)] ∧ Z.Warmed39 U_.vm ∧ U_.heap = h0) (fun _ _ _ _ _ => True) (fun _ U_ o_ U2_ => ∃ v_ L_, o_ = .returned v_ ∧ Q_flipo Z b kq z qs i h0 v_ U2_.heap L_ ∧ FrameEnd U_ o_ U2_ L_ ({ frames := 0, cells := 0, slots := 0, locals := 0 } : Room).cells ({ frames := 0, cells := 0, slots := 0, locals := 0 } : Room).slots) := by
  refine MetFree.of_bodySF (plainFor_of_name own_pn13) hisR ?_
  intro p e s m args below meth c s₁ Bd hml0 hP hK
  obtain ⟨rfl, hZ, hh⟩ := hP
  have hx := Bd.exec
  have hby := Bd.bytes
  have hml : c.maxLocals = 2 := hml0
  have hown : s.vm.findClass "com/example/trailcaster/trailcaster/model/ParticipantObjectQueryPinLaw" = some m.cls := findClass_of_methodNamed Bd.named
  have hnm := (name_of_methodNamed Bd.named Bd.method).1
  have X0 : Stand p l e ({ frames := 0, cells := 0, slots := 0, locals := 0 } : Room) s m #[(.ref b), (.int i)] below meth c s₁ [] 0 0 := Stand.of_body Bd
  have e0 : s₁.heap = h0 := by rw [← hh, Bd.state]; rfl
  have N0 := Fr.nil Z.heap.size
  show own_G p e below (fun o_ s₂ => ∃ v_ L_, o_ = .returned v_ ∧ Q_flipo Z b kq z qs i h0 v_ s₂.heap L_ ∧ FrameEnd s o_ s₂ L_ ({ frames := 0, cells := 0, slots := 0, locals := 0 } : Room).cells ({ frames := 0, cells := 0, slots := 0, locals := 0 } : Room).slots) (s₁.setTop (entryFrame m #[(.ref b), (.int i)] 2))
  refine own_go (s₁.setTop (mkF m 0 #[.val (.ref b), .val (.int i)] [])) (fun t_ k_ => castTop (own_ef_flipo m b i) k_) ?_
  refine own_go (s₁.setTop (mkF m 1 #[.val (.ref b), .val (.int i)] [(.int i)])) (fun t_ k_ => XS.iloadN X0.here hx rfl (hb hby own_d_method_4_0) rfl k_) ?_
  refine own_go (s₁.setTop (mkF m 2 #[.val (.ref b), .val (.int i)] [(.ref b), (.int i)])) (fun t_ k_ => XS.aloadN X0.here hx rfl (hb hby own_d_method_4_1) rfl rfl k_) ?_
  obtain ⟨cl1, Ar1, q1, Sz1, Nz1, Hz1, Gz1⟩ := id (Ab)
  refine own_go (s₁.setTop (mkF m 3 #[.val (.ref b), .val (.int i)] [(.int z), (.int i)])) (fun t_ k_ => X0.arraylength hx (by rw [e0]; exact Ar1.1) (State.isArrayOf_alike hZ.alike Ar1.2.1) (g := (mkF m 2 #[.val (.ref b), .val (.int i)] [(.ref b), (.int i)])) rfl rfl (hb hby own_d_method_4_2) _ (by rw [len_of Sz1 Nz1]; exact k_)) ?_
  refine own_go (s₁.setTop (mkF m 15 #[.val (.ref b), .val (.int i)] [])) (fun t_ k_ => XS.icmpYes X0.here hx rfl (pc0 := 3) (pc' := 15) rfl (hb hby own_d_method_4_3) rfl (flt hi).2.1 (by decide) (by decide) k_) ?_
  obtain ⟨fs, hr, hrun, hended, hW, hsame⟩ := X0.leave (v := none) (fun _ => rfl)
  refine ⟨_, _, X0.returnOut hx Bd.returns (hb hby own_d_method_4_15) hr, hrun, hended, _, _, rfl, ?_, ⟨_, rfl⟩, hW, hsame.mono (by decide) (by decide)⟩
  show Q_flipo Z b kq z qs i h0 _ s₁.heap _
  exact ⟨rfl, N0, e0⟩
theorem own_ef_ati (m : MethodId) (b : Addr) (i : Int32) (v : Int32) : entryFrame m #[(.ref b), (.int i), (.int v)] 3 = mkF m 0 #[.val (.ref b), .val (.int i), .val (.int v)] [] := by first | (simp [entryFrame, mkF, argsToLocals, Value.category]; done) | rfl
theorem own_d_method_5_0 : decode method_5_code 0 = .ok (.iload_n 1, 1) := by decide +kernel
theorem own_d_method_5_1 : decode method_5_code 1 = .ok (.aload_n 0, 1) := by decide +kernel
theorem own_d_method_5_2 : decode method_5_code 2 = .ok (.arraylength, 1) := by decide +kernel
theorem own_d_method_5_3 : decode method_5_code 3 = .ok (.if_icmp .ge 11, 3) := by decide +kernel
theorem own_d_method_5_6 : decode method_5_code 6 = .ok (.aload_n 0, 1) := by decide +kernel
theorem own_d_method_5_7 : decode method_5_code 7 = .ok (.iload_n 1, 1) := by decide +kernel
theorem own_d_method_5_8 : decode method_5_code 8 = .ok (.baload, 1) := by decide +kernel
theorem own_d_method_5_9 : decode method_5_code 9 = .ok (.iload_n 2, 1) := by decide +kernel
theorem own_d_method_5_10 : decode method_5_code 10 = .ok (.i2b, 1) := by decide +kernel
theorem own_d_method_5_11 : decode method_5_code 11 = .ok (.if_icmp .ne 7, 3) := by decide +kernel
theorem own_d_method_5_14 : decode method_5_code 14 = .ok (.iconst 1, 1) := by decide +kernel
theorem own_d_method_5_15 : decode method_5_code 15 = .ok (.goto 4, 3) := by decide +kernel
theorem own_d_method_5_19 : decode method_5_code 19 = .ok (.ireturn, 1) := by decide +kernel
def Q_ati (Z : State) (b : Addr) (kq : ClassId) (z : Int32) (qs : List Value) (i : Int32) (j : Nat) (v : Int32) (x : Int32) (h0 : Heap) (v_ : Option Value) (h : Heap) (L_ : List Loc) : Prop := v_ = some (.int 1) ∧ Fr Z.heap.size L_ ∧ (h = h0)
set_option maxRecDepth 65536 in
set_option maxHeartbeats 40000000 in
theorem rm_ati (l : Launch) (Z : State) (a0 : Array Value) (hw : ∀ d ∈ tables_1, d.before a0 Z = true) (ws : List Jvm.Cond) (b : Addr) (kq : ClassId) (z : Int32) (qs : List Value) (i : Int32) (j : Nat) (v : Int32) (x : Int32) (h0 : Heap) (O : Ext Z.heap h0) (Ab : Arv Z h0 b kq .byte z qs (.int 0)) (hi0 : ¬ i < 0) (hi : i < z) (hj : i.toNatClampNeg = j) (hv : qs.getD j (.int 0) = .int x) (he : x = (v.toInt8.toInt32)) :
    MetFree l (⟨"com/example/trailcaster/trailcaster/model/ParticipantObjectQueryPinLaw", "at", "([BII)Z"⟩ : MethodName) (head1 (Jvm.Cond.code (⟨"com/example/trailcaster/trailcaster/model/ParticipantObjectQueryPinLaw", "at", "([BII)Z"⟩ : MethodName) method_5_code 3 (some .boolean) :: ws) ({ frames := 0, cells := 0, slots := 0, locals := 0 } : Room)) (fun a_ U_ => a_ = #[(.ref b), (.int i), (.int v)] ∧ Z.Warmed39 U_.vm ∧ U_.heap = h0) (fun _ _ _ _ _ => True) (fun _ U_ o_ U2_ => ∃ v_ L_, o_ = .returned v_ ∧ Q_ati Z b kq z qs i j v x h0 v_ U2_.heap L_ ∧ FrameEnd U_ o_ U2_ L_ ({ frames := 0, cells := 0, slots := 0, locals := 0 } : Room).cells ({ frames := 0, cells := 0, slots := 0, locals := 0 } : Room).slots) := by
  refine MetFree.of_bodySF (plainFor_of_name own_pn13) hisR ?_
  intro p e s m args below meth c s₁ Bd hml0 hP hK
  obtain ⟨rfl, hZ, hh⟩ := hP
  have hx := Bd.exec
  have hby := Bd.bytes
  have hml : c.maxLocals = 3 := hml0
  have hown : s.vm.findClass "com/example/trailcaster/trailcaster/model/ParticipantObjectQueryPinLaw" = some m.cls := findClass_of_methodNamed Bd.named
  have hnm := (name_of_methodNamed Bd.named Bd.method).1
  have X0 : Stand p l e ({ frames := 0, cells := 0, slots := 0, locals := 0 } : Room) s m #[(.ref b), (.int i), (.int v)] below meth c s₁ [] 0 0 := Stand.of_body Bd
  have e0 : s₁.heap = h0 := by rw [← hh, Bd.state]; rfl
  have N0 := Fr.nil Z.heap.size
  show own_G p e below (fun o_ s₂ => ∃ v_ L_, o_ = .returned v_ ∧ Q_ati Z b kq z qs i j v x h0 v_ s₂.heap L_ ∧ FrameEnd s o_ s₂ L_ ({ frames := 0, cells := 0, slots := 0, locals := 0 } : Room).cells ({ frames := 0, cells := 0, slots := 0, locals := 0 } : Room).slots) (s₁.setTop (entryFrame m #[(.ref b), (.int i), (.int v)] 3))
  refine own_go (s₁.setTop (mkF m 0 #[.val (.ref b), .val (.int i), .val (.int v)] [])) (fun t_ k_ => castTop (own_ef_ati m b i v) k_) ?_
  refine own_go (s₁.setTop (mkF m 1 #[.val (.ref b), .val (.int i), .val (.int v)] [(.int i)])) (fun t_ k_ => XS.iloadN X0.here hx rfl (hb hby own_d_method_5_0) rfl k_) ?_
  refine own_go (s₁.setTop (mkF m 2 #[.val (.ref b), .val (.int i), .val (.int v)] [(.ref b), (.int i)])) (fun t_ k_ => XS.aloadN X0.here hx rfl (hb hby own_d_method_5_1) rfl rfl k_) ?_
  obtain ⟨cl1, Ar1, q1, Sz1, Nz1, Hz1, Gz1⟩ := id (Ab)
  refine own_go (s₁.setTop (mkF m 3 #[.val (.ref b), .val (.int i), .val (.int v)] [(.int z), (.int i)])) (fun t_ k_ => X0.arraylength hx (by rw [e0]; exact Ar1.1) (State.isArrayOf_alike hZ.alike Ar1.2.1) (g := (mkF m 2 #[.val (.ref b), .val (.int i), .val (.int v)] [(.ref b), (.int i)])) rfl rfl (hb hby own_d_method_5_2) _ (by rw [len_of Sz1 Nz1]; exact k_)) ?_
  refine own_go (s₁.setTop (mkF m 6 #[.val (.ref b), .val (.int i), .val (.int v)] [])) (fun t_ k_ => XS.icmpNo X0.here hx rfl (hb hby own_d_method_5_3) rfl (tlt hi).2.1 k_) ?_
  refine own_go (s₁.setTop (mkF m 7 #[.val (.ref b), .val (.int i), .val (.int v)] [(.ref b)])) (fun t_ k_ => XS.aloadN X0.here hx rfl (hb hby own_d_method_5_6) rfl rfl k_) ?_
  refine own_go (s₁.setTop (mkF m 8 #[.val (.ref b), .val (.int i), .val (.int v)] [(.int i), (.ref b)])) (fun t_ k_ => XS.iloadN X0.here hx rfl (hb hby own_d_method_5_7) rfl k_) ?_
  obtain ⟨cl2, Ar2, q2, Sz2, Nz2, Hz2, Gz2⟩ := id (Ab)
  have hin2 : ¬ (i < 0 ∨ cl2.slots.size ≤ (i).toNatClampNeg) := inb_of Sz2 ⟨hi0, hi⟩
  have hat2 : cl2.slots[(i).toNatClampNeg]? = some (.int x) := Hz2.at hin2 (by rw [hj]; exact hv)
  refine own_go (s₁.setTop (mkF m 9 #[.val (.ref b), .val (.int i), .val (.int v)] [(.int x)])) (fun t_ k_ => X0.baloadBytes hx (j := i) (v := (.int x)) (by rw [e0]; exact Ar2.1) (State.isArrayOf_alike hZ.alike Ar2.2.1) Ar2.2.2 hin2 hat2 (g := (mkF m 8 #[.val (.ref b), .val (.int i), .val (.int v)] [(.int i), (.ref b)])) rfl rfl (hb hby own_d_method_5_8) _ k_) ?_
  refine own_go (s₁.setTop (mkF m 10 #[.val (.ref b), .val (.int i), .val (.int v)] [(.int v), (.int x)])) (fun t_ k_ => XS.iloadN X0.here hx rfl (hb hby own_d_method_5_9) rfl k_) ?_
  refine own_go (s₁.setTop (mkF m 11 #[.val (.ref b), .val (.int i), .val (.int v)] [(.int (v.toInt8.toInt32)), (.int x)])) (fun t_ k_ => XS.i2b X0.here hx rfl (hb hby own_d_method_5_10) rfl k_) ?_
  refine own_go (s₁.setTop (mkF m 14 #[.val (.ref b), .val (.int i), .val (.int v)] [])) (fun t_ k_ => XS.icmpNo X0.here hx rfl (hb hby own_d_method_5_11) rfl (teq he).2 k_) ?_
  refine own_go (s₁.setTop (mkF m 15 #[.val (.ref b), .val (.int i), .val (.int v)] [(.int (1 : Int32))])) (fun t_ k_ => XS.iconst X0.here hx rfl (hb hby own_d_method_5_14) k_) ?_
  refine own_go (s₁.setTop (mkF m 19 #[.val (.ref b), .val (.int i), .val (.int v)] [(.int (1 : Int32))])) (fun t_ k_ => XS.goto X0.here hx rfl (pc0 := 15) (pc' := 19) rfl (hb hby own_d_method_5_15) (by decide) (by decide) k_) ?_
  obtain ⟨fs, hr, hrun, hended, hW, hsame⟩ := X0.leave (v := some (.int (nar .boolean (1 : Int32)))) (fun h => by rw [Bd.returns] at h; cases h)
  refine ⟨_, _, retN X0 hx (t := .boolean) Bd.returns (by simp) (hb hby own_d_method_5_19) hr, hrun, hended, _, _, rfl, ?_, ⟨_, rfl⟩, hW, hsame.mono (by decide) (by decide)⟩
  show Q_ati Z b kq z qs i j v x h0 _ s₁.heap _
  exact ⟨rfl, N0, e0⟩
theorem own_ef_ato (m : MethodId) (b : Addr) (i : Int32) (v : Int32) : entryFrame m #[(.ref b), (.int i), (.int v)] 3 = mkF m 0 #[.val (.ref b), .val (.int i), .val (.int v)] [] := by first | (simp [entryFrame, mkF, argsToLocals, Value.category]; done) | rfl
def Q_ato (Z : State) (b : Addr) (kq : ClassId) (z : Int32) (qs : List Value) (i : Int32) (v : Int32) (h0 : Heap) (v_ : Option Value) (h : Heap) (L_ : List Loc) : Prop := v_ = some (.int 1) ∧ Fr Z.heap.size L_ ∧ (h = h0)
set_option maxRecDepth 65536 in
set_option maxHeartbeats 40000000 in
theorem rm_ato (l : Launch) (Z : State) (a0 : Array Value) (hw : ∀ d ∈ tables_1, d.before a0 Z = true) (ws : List Jvm.Cond) (b : Addr) (kq : ClassId) (z : Int32) (qs : List Value) (i : Int32) (v : Int32) (h0 : Heap) (O : Ext Z.heap h0) (Ab : Arv Z h0 b kq .byte z qs (.int 0)) (hi : ¬ i < z) :
    MetFree l (⟨"com/example/trailcaster/trailcaster/model/ParticipantObjectQueryPinLaw", "at", "([BII)Z"⟩ : MethodName) (head1 (Jvm.Cond.code (⟨"com/example/trailcaster/trailcaster/model/ParticipantObjectQueryPinLaw", "at", "([BII)Z"⟩ : MethodName) method_5_code 3 (some .boolean) :: ws) ({ frames := 0, cells := 0, slots := 0, locals := 0 } : Room)) (fun a_ U_ => a_ = #[(.ref b), (.int i), (.int v)] ∧ Z.Warmed39 U_.vm ∧ U_.heap = h0) (fun _ _ _ _ _ => True) (fun _ U_ o_ U2_ => ∃ v_ L_, o_ = .returned v_ ∧ Q_ato Z b kq z qs i v h0 v_ U2_.heap L_ ∧ FrameEnd U_ o_ U2_ L_ ({ frames := 0, cells := 0, slots := 0, locals := 0 } : Room).cells ({ frames := 0, cells := 0, slots := 0, locals := 0 } : Room).slots) := by
  refine MetFree.of_bodySF (plainFor_of_name own_pn13) hisR ?_
  intro p e s m args below meth c s₁ Bd hml0 hP hK
  obtain ⟨rfl, hZ, hh⟩ := hP
  have hx := Bd.exec
  have hby := Bd.bytes
  have hml : c.maxLocals = 3 := hml0
  have hown : s.vm.findClass "com/example/trailcaster/trailcaster/model/ParticipantObjectQueryPinLaw" = some m.cls := findClass_of_methodNamed Bd.named
  have hnm := (name_of_methodNamed Bd.named Bd.method).1
  have X0 : Stand p l e ({ frames := 0, cells := 0, slots := 0, locals := 0 } : Room) s m #[(.ref b), (.int i), (.int v)] below meth c s₁ [] 0 0 := Stand.of_body Bd
  have e0 : s₁.heap = h0 := by rw [← hh, Bd.state]; rfl
  have N0 := Fr.nil Z.heap.size
  show own_G p e below (fun o_ s₂ => ∃ v_ L_, o_ = .returned v_ ∧ Q_ato Z b kq z qs i v h0 v_ s₂.heap L_ ∧ FrameEnd s o_ s₂ L_ ({ frames := 0, cells := 0, slots := 0, locals := 0 } : Room).cells ({ frames := 0, cells := 0, slots := 0, locals := 0 } : Room).slots) (s₁.setTop (entryFrame m #[(.ref b), (.int i), (.int v)] 3))
  refine own_go (s₁.setTop (mkF m 0 #[.val (.ref b), .val (.int i), .val (.int v)] [])) (fun t_ k_ => castTop (own_ef_ato m b i v) k_) ?_
  refine own_go (s₁.setTop (mkF m 1 #[.val (.ref b), .val (.int i), .val (.int v)] [(.int i)])) (fun t_ k_ => XS.iloadN X0.here hx rfl (hb hby own_d_method_5_0) rfl k_) ?_
  refine own_go (s₁.setTop (mkF m 2 #[.val (.ref b), .val (.int i), .val (.int v)] [(.ref b), (.int i)])) (fun t_ k_ => XS.aloadN X0.here hx rfl (hb hby own_d_method_5_1) rfl rfl k_) ?_
  obtain ⟨cl1, Ar1, q1, Sz1, Nz1, Hz1, Gz1⟩ := id (Ab)
  refine own_go (s₁.setTop (mkF m 3 #[.val (.ref b), .val (.int i), .val (.int v)] [(.int z), (.int i)])) (fun t_ k_ => X0.arraylength hx (by rw [e0]; exact Ar1.1) (State.isArrayOf_alike hZ.alike Ar1.2.1) (g := (mkF m 2 #[.val (.ref b), .val (.int i), .val (.int v)] [(.ref b), (.int i)])) rfl rfl (hb hby own_d_method_5_2) _ (by rw [len_of Sz1 Nz1]; exact k_)) ?_
  refine own_go (s₁.setTop (mkF m 14 #[.val (.ref b), .val (.int i), .val (.int v)] [])) (fun t_ k_ => XS.icmpYes X0.here hx rfl (pc0 := 3) (pc' := 14) rfl (hb hby own_d_method_5_3) rfl (flt hi).2.1 (by decide) (by decide) k_) ?_
  refine own_go (s₁.setTop (mkF m 15 #[.val (.ref b), .val (.int i), .val (.int v)] [(.int (1 : Int32))])) (fun t_ k_ => XS.iconst X0.here hx rfl (hb hby own_d_method_5_14) k_) ?_
  refine own_go (s₁.setTop (mkF m 19 #[.val (.ref b), .val (.int i), .val (.int v)] [(.int (1 : Int32))])) (fun t_ k_ => XS.goto X0.here hx rfl (pc0 := 15) (pc' := 19) rfl (hb hby own_d_method_5_15) (by decide) (by decide) k_) ?_
  obtain ⟨fs, hr, hrun, hended, hW, hsame⟩ := X0.leave (v := some (.int (nar .boolean (1 : Int32)))) (fun h => by rw [Bd.returns] at h; cases h)
  refine ⟨_, _, retN X0 hx (t := .boolean) Bd.returns (by simp) (hb hby own_d_method_5_19) hr, hrun, hended, _, _, rfl, ?_, ⟨_, rfl⟩, hW, hsame.mono (by decide) (by decide)⟩
  show Q_ato Z b kq z qs i v h0 _ s₁.heap _
  exact ⟨rfl, N0, e0⟩
theorem own_ef_same0 (m : MethodId) (b : Addr) (b0 : Int32) (b1 : Int32) (b2 : Int32) (b3 : Int32) : entryFrame m #[(.ref b), (.int (0 : Int32)), (.int b0), (.int b1), (.int b2), (.int b3)] 6 = mkF m 0 #[.val (.ref b), .val (.int (0 : Int32)), .val (.int b0), .val (.int b1), .val (.int b2), .val (.int b3)] [] := by first | (simp [entryFrame, mkF, argsToLocals, Value.category]; done) | rfl
theorem own_d_method_6_0 : decode method_6_code 0 = .ok (.aload_n 0, 1) := by decide +kernel
theorem own_d_method_6_1 : decode method_6_code 1 = .ok (.arraylength, 1) := by decide +kernel
theorem own_d_method_6_2 : decode method_6_code 2 = .ok (.iload_n 1, 1) := by decide +kernel
theorem own_d_method_6_3 : decode method_6_code 3 = .ok (.if_icmp .ne 45, 3) := by decide +kernel
theorem own_d_method_6_6 : decode method_6_code 6 = .ok (.aload_n 0, 1) := by decide +kernel
theorem own_d_method_6_7 : decode method_6_code 7 = .ok (.iconst 0, 1) := by decide +kernel
theorem own_d_method_6_8 : decode method_6_code 8 = .ok (.iload_n 2, 1) := by decide +kernel
theorem own_d_method_6_9 : decode method_6_code 9 = .ok (.invokestatic 55, 3) := by decide +kernel
theorem own_pd12 : parseMethodDescriptor "([BII)Z" = some ⟨[(.array .byte), .int, .int], some .boolean⟩ := by decide +kernel
theorem own_d_method_6_12 : decode method_6_code 12 = .ok (.ifCond .eq 36, 3) := by decide +kernel
theorem own_d_method_6_15 : decode method_6_code 15 = .ok (.aload_n 0, 1) := by decide +kernel
theorem own_d_method_6_16 : decode method_6_code 16 = .ok (.iconst 1, 1) := by decide +kernel
theorem own_d_method_6_17 : decode method_6_code 17 = .ok (.iload_n 3, 1) := by decide +kernel
theorem own_d_method_6_18 : decode method_6_code 18 = .ok (.invokestatic 55, 3) := by decide +kernel
theorem own_d_method_6_21 : decode method_6_code 21 = .ok (.ifCond .eq 27, 3) := by decide +kernel
theorem own_d_method_6_24 : decode method_6_code 24 = .ok (.aload_n 0, 1) := by decide +kernel
theorem own_d_method_6_25 : decode method_6_code 25 = .ok (.iconst 2, 1) := by decide +kernel
theorem own_d_method_6_26 : decode method_6_code 26 = .ok (.iload 4, 2) := by decide +kernel
theorem own_d_method_6_28 : decode method_6_code 28 = .ok (.invokestatic 55, 3) := by decide +kernel
theorem own_d_method_6_31 : decode method_6_code 31 = .ok (.ifCond .eq 17, 3) := by decide +kernel
theorem own_d_method_6_34 : decode method_6_code 34 = .ok (.aload_n 0, 1) := by decide +kernel
theorem own_d_method_6_35 : decode method_6_code 35 = .ok (.iconst 3, 1) := by decide +kernel
theorem own_d_method_6_36 : decode method_6_code 36 = .ok (.iload 5, 2) := by decide +kernel
theorem own_d_method_6_38 : decode method_6_code 38 = .ok (.invokestatic 55, 3) := by decide +kernel
theorem own_d_method_6_41 : decode method_6_code 41 = .ok (.ifCond .eq 7, 3) := by decide +kernel
theorem own_d_method_6_44 : decode method_6_code 44 = .ok (.iconst 1, 1) := by decide +kernel
theorem own_d_method_6_45 : decode method_6_code 45 = .ok (.goto 4, 3) := by decide +kernel
theorem own_d_method_6_49 : decode method_6_code 49 = .ok (.ireturn, 1) := by decide +kernel
def Q_same0 (Z : State) (b : Addr) (kq : ClassId) (b0 : Int32) (b1 : Int32) (b2 : Int32) (b3 : Int32) (h0 : Heap) (v_ : Option Value) (h : Heap) (L_ : List Loc) : Prop := v_ = some (.int 1) ∧ Fr Z.heap.size L_ ∧ (h = h0)
set_option maxRecDepth 65536 in
set_option maxHeartbeats 40000000 in
theorem rm_same0 (l : Launch) (Z : State) (a0 : Array Value) (hw : ∀ d ∈ tables_1, d.before a0 Z = true) (ws : List Jvm.Cond) (b : Addr) (kq : ClassId) (b0 : Int32) (b1 : Int32) (b2 : Int32) (b3 : Int32) (h0 : Heap) (O : Ext Z.heap h0) (Ab : Arv Z h0 b kq .byte 0 [] (.int 0)) :
    MetFree l (⟨"com/example/trailcaster/trailcaster/model/ParticipantObjectQueryPinLaw", "same", "([BIIIII)Z"⟩ : MethodName) (head1 (Jvm.Cond.code (⟨"com/example/trailcaster/trailcaster/model/ParticipantObjectQueryPinLaw", "same", "([BIIIII)Z"⟩ : MethodName) method_6_code 6 (some .boolean) :: ws) ({ frames := 1, cells := 0, slots := 0, locals := 14 } : Room)) (fun a_ U_ => a_ = #[(.ref b), (.int (0 : Int32)), (.int b0), (.int b1), (.int b2), (.int b3)] ∧ Z.Warmed39 U_.vm ∧ U_.heap = h0) (fun _ _ _ _ _ => True) (fun _ U_ o_ U2_ => ∃ v_ L_, o_ = .returned v_ ∧ Q_same0 Z b kq b0 b1 b2 b3 h0 v_ U2_.heap L_ ∧ FrameEnd U_ o_ U2_ L_ ({ frames := 1, cells := 0, slots := 0, locals := 14 } : Room).cells ({ frames := 1, cells := 0, slots := 0, locals := 14 } : Room).slots) := by
  refine MetFree.of_bodySF (plainFor_of_name own_pn13) hisR ?_
  intro p e s m args below meth c s₁ Bd hml0 hP hK
  obtain ⟨rfl, hZ, hh⟩ := hP
  have hx := Bd.exec
  have hby := Bd.bytes
  have hml : c.maxLocals = 6 := hml0
  have hown : s.vm.findClass "com/example/trailcaster/trailcaster/model/ParticipantObjectQueryPinLaw" = some m.cls := findClass_of_methodNamed Bd.named
  have hnm := (name_of_methodNamed Bd.named Bd.method).1
  have X0 : Stand p l e ({ frames := 1, cells := 0, slots := 0, locals := 14 } : Room) s m #[(.ref b), (.int (0 : Int32)), (.int b0), (.int b1), (.int b2), (.int b3)] below meth c s₁ [] 0 0 := Stand.of_body Bd
  have e0 : s₁.heap = h0 := by rw [← hh, Bd.state]; rfl
  have N0 := Fr.nil Z.heap.size
  show own_G p e below (fun o_ s₂ => ∃ v_ L_, o_ = .returned v_ ∧ Q_same0 Z b kq b0 b1 b2 b3 h0 v_ s₂.heap L_ ∧ FrameEnd s o_ s₂ L_ ({ frames := 1, cells := 0, slots := 0, locals := 14 } : Room).cells ({ frames := 1, cells := 0, slots := 0, locals := 14 } : Room).slots) (s₁.setTop (entryFrame m #[(.ref b), (.int (0 : Int32)), (.int b0), (.int b1), (.int b2), (.int b3)] 6))
  refine own_go (s₁.setTop (mkF m 0 #[.val (.ref b), .val (.int (0 : Int32)), .val (.int b0), .val (.int b1), .val (.int b2), .val (.int b3)] [])) (fun t_ k_ => castTop (own_ef_same0 m b b0 b1 b2 b3) k_) ?_
  refine own_go (s₁.setTop (mkF m 1 #[.val (.ref b), .val (.int (0 : Int32)), .val (.int b0), .val (.int b1), .val (.int b2), .val (.int b3)] [(.ref b)])) (fun t_ k_ => XS.aloadN X0.here hx rfl (hb hby own_d_method_6_0) rfl rfl k_) ?_
  obtain ⟨cl1, Ar1, q1, Sz1, Nz1, Hz1, Gz1⟩ := id (Ab)
  refine own_go (s₁.setTop (mkF m 2 #[.val (.ref b), .val (.int (0 : Int32)), .val (.int b0), .val (.int b1), .val (.int b2), .val (.int b3)] [(.int (0 : Int32))])) (fun t_ k_ => X0.arraylength hx (by rw [e0]; exact Ar1.1) (State.isArrayOf_alike hZ.alike Ar1.2.1) (g := (mkF m 1 #[.val (.ref b), .val (.int (0 : Int32)), .val (.int b0), .val (.int b1), .val (.int b2), .val (.int b3)] [(.ref b)])) rfl rfl (hb hby own_d_method_6_1) _ (by rw [len_of Sz1 Nz1]; exact k_)) ?_
  refine own_go (s₁.setTop (mkF m 3 #[.val (.ref b), .val (.int (0 : Int32)), .val (.int b0), .val (.int b1), .val (.int b2), .val (.int b3)] [(.int (0 : Int32)), (.int (0 : Int32))])) (fun t_ k_ => XS.iloadN X0.here hx rfl (hb hby own_d_method_6_2) rfl k_) ?_
  refine own_go (s₁.setTop (mkF m 6 #[.val (.ref b), .val (.int (0 : Int32)), .val (.int b0), .val (.int b1), .val (.int b2), .val (.int b3)] [])) (fun t_ k_ => XS.icmpNo X0.here hx rfl (hb hby own_d_method_6_3) rfl (teq (by decide : (0 : Int32) = (0 : Int32))).2 k_) ?_
  refine own_go (s₁.setTop (mkF m 7 #[.val (.ref b), .val (.int (0 : Int32)), .val (.int b0), .val (.int b1), .val (.int b2), .val (.int b3)] [(.ref b)])) (fun t_ k_ => XS.aloadN X0.here hx rfl (hb hby own_d_method_6_6) rfl rfl k_) ?_
  refine own_go (s₁.setTop (mkF m 8 #[.val (.ref b), .val (.int (0 : Int32)), .val (.int b0), .val (.int b1), .val (.int b2), .val (.int b3)] [(.int (0 : Int32)), (.ref b)])) (fun t_ k_ => XS.iconst X0.here hx rfl (hb hby own_d_method_6_7) k_) ?_
  refine own_go (s₁.setTop (mkF m 9 #[.val (.ref b), .val (.int (0 : Int32)), .val (.int b0), .val (.int b1), .val (.int b2), .val (.int b3)] [(.int b0), (.int (0 : Int32)), (.ref b)])) (fun t_ k_ => XS.iloadN X0.here hx rfl (hb hby own_d_method_6_8) rfl k_) ?_
  obtain ⟨_, _, ⟨T2, Lu2, ku2, nu2⟩, -, X2, ⟨Lc2, hQ2, lu2, yu2, zu2⟩, st2⟩ := Jvm.LawKit.callS X0 hx (y := (⟨"com/example/trailcaster/trailcaster/model/ParticipantObjectQueryPinLaw", "at", "([BII)Z"⟩ : MethodName)) hown (mvT hZ (hw _ (List.mem_of_getElem? (i := 227) rfl))) (mvT hZ (hw _ (List.mem_of_getElem? (i := 228) rfl))) (mvT hZ (hw _ (List.mem_of_getElem? (i := 73) rfl))) (mvT hZ (hw _ (List.mem_of_getElem? (i := 229) rfl))) (by decide) (backOf (W := 0) (rm_ato l Z a0 hw [] (b) (kq) ((0 : Int32)) ([]) ((0 : Int32)) (b0) h0 O Ab (by decide)) hZ (hw _ (List.mem_of_getElem? (i := 229) rfl)) (hw _ (List.mem_of_getElem? (i := 73) rfl)) (by decide) (by decide)) (g := (mkF m 9 #[.val (.ref b), .val (.int (0 : Int32)), .val (.int b0), .val (.int b1), .val (.int b2), .val (.int b3)] [(.int b0), (.int (0 : Int32)), (.ref b)])) rfl (by rw [hml]; rfl) (argsL := [(.ref b), (.int (0 : Int32)), (.int b0)]) (rest := []) (lenOf own_pd12 rfl) rfl (by show 2 * 0 + _ ≤ _; exact Nat.le_of_eq rfl) (hb hby own_d_method_6_9) (fun _ _ => ⟨rfl, e0, (by decide : 0 + 0 ≤ _), (by decide : 0 + 0 ≤ _)⟩)
  dsimp only [Pt.U, Pt.locs, Pt.cells, Pt.slots] at X2 lu2 yu2 zu2 st2 hQ2
  subst lu2 yu2 zu2
  obtain ⟨rfl, N2q, e2⟩ := hQ2
  have N2 := Fr.app N0 N2q
  refine own_go (T2.setTop (mkF m 12 #[.val (.ref b), .val (.int (0 : Int32)), .val (.int b0), .val (.int b1), .val (.int b2), .val (.int b3)] [(.int (1 : Int32))])) (fun t_ k_ => st2 _ k_) ?_
  refine own_go (T2.setTop (mkF m 15 #[.val (.ref b), .val (.int (0 : Int32)), .val (.int b0), .val (.int b1), .val (.int b2), .val (.int b3)] [])) (fun t_ k_ => XS.ifNo X2.here hx rfl (hb hby own_d_method_6_12) rfl ((if0 _ _).trans (feq (by decide : ¬ ((1 : Int32) = (0 : Int32)))).1) k_) ?_
  refine own_go (T2.setTop (mkF m 16 #[.val (.ref b), .val (.int (0 : Int32)), .val (.int b0), .val (.int b1), .val (.int b2), .val (.int b3)] [(.ref b)])) (fun t_ k_ => XS.aloadN X2.here hx rfl (hb hby own_d_method_6_15) rfl rfl k_) ?_
  refine own_go (T2.setTop (mkF m 17 #[.val (.ref b), .val (.int (0 : Int32)), .val (.int b0), .val (.int b1), .val (.int b2), .val (.int b3)] [(.int (1 : Int32)), (.ref b)])) (fun t_ k_ => XS.iconst X2.here hx rfl (hb hby own_d_method_6_16) k_) ?_
  refine own_go (T2.setTop (mkF m 18 #[.val (.ref b), .val (.int (0 : Int32)), .val (.int b0), .val (.int b1), .val (.int b2), .val (.int b3)] [(.int b1), (.int (1 : Int32)), (.ref b)])) (fun t_ k_ => XS.iloadN X2.here hx rfl (hb hby own_d_method_6_17) rfl k_) ?_
  obtain ⟨_, _, ⟨T3, Lu3, ku3, nu3⟩, -, X3, ⟨Lc3, hQ3, lu3, yu3, zu3⟩, st3⟩ := Jvm.LawKit.callS X2 hx (y := (⟨"com/example/trailcaster/trailcaster/model/ParticipantObjectQueryPinLaw", "at", "([BII)Z"⟩ : MethodName)) hown (mvT hZ (hw _ (List.mem_of_getElem? (i := 227) rfl))) (mvT hZ (hw _ (List.mem_of_getElem? (i := 228) rfl))) (mvT hZ (hw _ (List.mem_of_getElem? (i := 73) rfl))) (mvT hZ (hw _ (List.mem_of_getElem? (i := 229) rfl))) (by decide) (backOf (W := 0) (rm_ato l Z a0 hw [] (b) (kq) ((0 : Int32)) ([]) ((1 : Int32)) (b1) h0 O Ab (by decide)) hZ (hw _ (List.mem_of_getElem? (i := 229) rfl)) (hw _ (List.mem_of_getElem? (i := 73) rfl)) (by decide) (by decide)) (g := (mkF m 18 #[.val (.ref b), .val (.int (0 : Int32)), .val (.int b0), .val (.int b1), .val (.int b2), .val (.int b3)] [(.int b1), (.int (1 : Int32)), (.ref b)])) rfl (by rw [hml]; rfl) (argsL := [(.ref b), (.int (1 : Int32)), (.int b1)]) (rest := []) (lenOf own_pd12 rfl) rfl (by show 2 * 0 + _ ≤ _; exact Nat.le_of_eq rfl) (hb hby own_d_method_6_18) (fun _ _ => ⟨rfl, e2, (by decide : 0 + 0 ≤ _), (by decide : 0 + 0 ≤ _)⟩)
  dsimp only [Pt.U, Pt.locs, Pt.cells, Pt.slots] at X3 lu3 yu3 zu3 st3 hQ3
  subst lu3 yu3 zu3
  obtain ⟨rfl, N3q, e3⟩ := hQ3
  have N3 := Fr.app N2 N3q
  refine own_go (T3.setTop (mkF m 21 #[.val (.ref b), .val (.int (0 : Int32)), .val (.int b0), .val (.int b1), .val (.int b2), .val (.int b3)] [(.int (1 : Int32))])) (fun t_ k_ => st3 _ k_) ?_
  refine own_go (T3.setTop (mkF m 24 #[.val (.ref b), .val (.int (0 : Int32)), .val (.int b0), .val (.int b1), .val (.int b2), .val (.int b3)] [])) (fun t_ k_ => XS.ifNo X3.here hx rfl (hb hby own_d_method_6_21) rfl ((if0 _ _).trans (feq (by decide : ¬ ((1 : Int32) = (0 : Int32)))).1) k_) ?_
  refine own_go (T3.setTop (mkF m 25 #[.val (.ref b), .val (.int (0 : Int32)), .val (.int b0), .val (.int b1), .val (.int b2), .val (.int b3)] [(.ref b)])) (fun t_ k_ => XS.aloadN X3.here hx rfl (hb hby own_d_method_6_24) rfl rfl k_) ?_
  refine own_go (T3.setTop (mkF m 26 #[.val (.ref b), .val (.int (0 : Int32)), .val (.int b0), .val (.int b1), .val (.int b2), .val (.int b3)] [(.int (2 : Int32)), (.ref b)])) (fun t_ k_ => XS.iconst X3.here hx rfl (hb hby own_d_method_6_25) k_) ?_
  refine own_go (T3.setTop (mkF m 28 #[.val (.ref b), .val (.int (0 : Int32)), .val (.int b0), .val (.int b1), .val (.int b2), .val (.int b3)] [(.int b2), (.int (2 : Int32)), (.ref b)])) (fun t_ k_ => XS.iload X3.here hx rfl (hb hby own_d_method_6_26) rfl k_) ?_
  obtain ⟨_, _, ⟨T4, Lu4, ku4, nu4⟩, -, X4, ⟨Lc4, hQ4, lu4, yu4, zu4⟩, st4⟩ := Jvm.LawKit.callS X3 hx (y := (⟨"com/example/trailcaster/trailcaster/model/ParticipantObjectQueryPinLaw", "at", "([BII)Z"⟩ : MethodName)) hown (mvT hZ (hw _ (List.mem_of_getElem? (i := 227) rfl))) (mvT hZ (hw _ (List.mem_of_getElem? (i := 228) rfl))) (mvT hZ (hw _ (List.mem_of_getElem? (i := 73) rfl))) (mvT hZ (hw _ (List.mem_of_getElem? (i := 229) rfl))) (by decide) (backOf (W := 0) (rm_ato l Z a0 hw [] (b) (kq) ((0 : Int32)) ([]) ((2 : Int32)) (b2) h0 O Ab (by decide)) hZ (hw _ (List.mem_of_getElem? (i := 229) rfl)) (hw _ (List.mem_of_getElem? (i := 73) rfl)) (by decide) (by decide)) (g := (mkF m 28 #[.val (.ref b), .val (.int (0 : Int32)), .val (.int b0), .val (.int b1), .val (.int b2), .val (.int b3)] [(.int b2), (.int (2 : Int32)), (.ref b)])) rfl (by rw [hml]; rfl) (argsL := [(.ref b), (.int (2 : Int32)), (.int b2)]) (rest := []) (lenOf own_pd12 rfl) rfl (by show 2 * 0 + _ ≤ _; exact Nat.le_of_eq rfl) (hb hby own_d_method_6_28) (fun _ _ => ⟨rfl, e3, (by decide : 0 + 0 ≤ _), (by decide : 0 + 0 ≤ _)⟩)
  dsimp only [Pt.U, Pt.locs, Pt.cells, Pt.slots] at X4 lu4 yu4 zu4 st4 hQ4
  subst lu4 yu4 zu4
  obtain ⟨rfl, N4q, e4⟩ := hQ4
  have N4 := Fr.app N3 N4q
  refine own_go (T4.setTop (mkF m 31 #[.val (.ref b), .val (.int (0 : Int32)), .val (.int b0), .val (.int b1), .val (.int b2), .val (.int b3)] [(.int (1 : Int32))])) (fun t_ k_ => st4 _ k_) ?_
  refine own_go (T4.setTop (mkF m 34 #[.val (.ref b), .val (.int (0 : Int32)), .val (.int b0), .val (.int b1), .val (.int b2), .val (.int b3)] [])) (fun t_ k_ => XS.ifNo X4.here hx rfl (hb hby own_d_method_6_31) rfl ((if0 _ _).trans (feq (by decide : ¬ ((1 : Int32) = (0 : Int32)))).1) k_) ?_
  refine own_go (T4.setTop (mkF m 35 #[.val (.ref b), .val (.int (0 : Int32)), .val (.int b0), .val (.int b1), .val (.int b2), .val (.int b3)] [(.ref b)])) (fun t_ k_ => XS.aloadN X4.here hx rfl (hb hby own_d_method_6_34) rfl rfl k_) ?_
  refine own_go (T4.setTop (mkF m 36 #[.val (.ref b), .val (.int (0 : Int32)), .val (.int b0), .val (.int b1), .val (.int b2), .val (.int b3)] [(.int (3 : Int32)), (.ref b)])) (fun t_ k_ => XS.iconst X4.here hx rfl (hb hby own_d_method_6_35) k_) ?_
  refine own_go (T4.setTop (mkF m 38 #[.val (.ref b), .val (.int (0 : Int32)), .val (.int b0), .val (.int b1), .val (.int b2), .val (.int b3)] [(.int b3), (.int (3 : Int32)), (.ref b)])) (fun t_ k_ => XS.iload X4.here hx rfl (hb hby own_d_method_6_36) rfl k_) ?_
  obtain ⟨_, _, ⟨T5, Lu5, ku5, nu5⟩, -, X5, ⟨Lc5, hQ5, lu5, yu5, zu5⟩, st5⟩ := Jvm.LawKit.callS X4 hx (y := (⟨"com/example/trailcaster/trailcaster/model/ParticipantObjectQueryPinLaw", "at", "([BII)Z"⟩ : MethodName)) hown (mvT hZ (hw _ (List.mem_of_getElem? (i := 227) rfl))) (mvT hZ (hw _ (List.mem_of_getElem? (i := 228) rfl))) (mvT hZ (hw _ (List.mem_of_getElem? (i := 73) rfl))) (mvT hZ (hw _ (List.mem_of_getElem? (i := 229) rfl))) (by decide) (backOf (W := 0) (rm_ato l Z a0 hw [] (b) (kq) ((0 : Int32)) ([]) ((3 : Int32)) (b3) h0 O Ab (by decide)) hZ (hw _ (List.mem_of_getElem? (i := 229) rfl)) (hw _ (List.mem_of_getElem? (i := 73) rfl)) (by decide) (by decide)) (g := (mkF m 38 #[.val (.ref b), .val (.int (0 : Int32)), .val (.int b0), .val (.int b1), .val (.int b2), .val (.int b3)] [(.int b3), (.int (3 : Int32)), (.ref b)])) rfl (by rw [hml]; rfl) (argsL := [(.ref b), (.int (3 : Int32)), (.int b3)]) (rest := []) (lenOf own_pd12 rfl) rfl (by show 2 * 0 + _ ≤ _; exact Nat.le_of_eq rfl) (hb hby own_d_method_6_38) (fun _ _ => ⟨rfl, e4, (by decide : 0 + 0 ≤ _), (by decide : 0 + 0 ≤ _)⟩)
  dsimp only [Pt.U, Pt.locs, Pt.cells, Pt.slots] at X5 lu5 yu5 zu5 st5 hQ5
  subst lu5 yu5 zu5
  obtain ⟨rfl, N5q, e5⟩ := hQ5
  have N5 := Fr.app N4 N5q
  refine own_go (T5.setTop (mkF m 41 #[.val (.ref b), .val (.int (0 : Int32)), .val (.int b0), .val (.int b1), .val (.int b2), .val (.int b3)] [(.int (1 : Int32))])) (fun t_ k_ => st5 _ k_) ?_
  refine own_go (T5.setTop (mkF m 44 #[.val (.ref b), .val (.int (0 : Int32)), .val (.int b0), .val (.int b1), .val (.int b2), .val (.int b3)] [])) (fun t_ k_ => XS.ifNo X5.here hx rfl (hb hby own_d_method_6_41) rfl ((if0 _ _).trans (feq (by decide : ¬ ((1 : Int32) = (0 : Int32)))).1) k_) ?_
  refine own_go (T5.setTop (mkF m 45 #[.val (.ref b), .val (.int (0 : Int32)), .val (.int b0), .val (.int b1), .val (.int b2), .val (.int b3)] [(.int (1 : Int32))])) (fun t_ k_ => XS.iconst X5.here hx rfl (hb hby own_d_method_6_44) k_) ?_
  refine own_go (T5.setTop (mkF m 49 #[.val (.ref b), .val (.int (0 : Int32)), .val (.int b0), .val (.int b1), .val (.int b2), .val (.int b3)] [(.int (1 : Int32))])) (fun t_ k_ => XS.goto X5.here hx rfl (pc0 := 45) (pc' := 49) rfl (hb hby own_d_method_6_45) (by decide) (by decide) k_) ?_
  obtain ⟨fs, hr, hrun, hended, hW, hsame⟩ := X5.leave (v := some (.int (nar .boolean (1 : Int32)))) (fun h => by rw [Bd.returns] at h; cases h)
  refine ⟨_, _, retN X5 hx (t := .boolean) Bd.returns (by simp) (hb hby own_d_method_6_49) hr, hrun, hended, _, _, rfl, ?_, ⟨_, rfl⟩, hW, hsame.mono (by decide) (by decide)⟩
  show Q_same0 Z b kq b0 b1 b2 b3 h0 _ T5.heap _
  exact ⟨rfl, N5, e5⟩
theorem own_ef_same1 (m : MethodId) (b : Addr) (b0 : Int32) (b1 : Int32) (b2 : Int32) (b3 : Int32) : entryFrame m #[(.ref b), (.int (1 : Int32)), (.int b0), (.int b1), (.int b2), (.int b3)] 6 = mkF m 0 #[.val (.ref b), .val (.int (1 : Int32)), .val (.int b0), .val (.int b1), .val (.int b2), .val (.int b3)] [] := by first | (simp [entryFrame, mkF, argsToLocals, Value.category]; done) | rfl
def Q_same1 (Z : State) (b : Addr) (kq : ClassId) (b0 : Int32) (b1 : Int32) (b2 : Int32) (b3 : Int32) (h0 : Heap) (v_ : Option Value) (h : Heap) (L_ : List Loc) : Prop := v_ = some (.int 1) ∧ Fr Z.heap.size L_ ∧ (h = h0)
set_option maxRecDepth 65536 in
set_option maxHeartbeats 40000000 in
theorem rm_same1 (l : Launch) (Z : State) (a0 : Array Value) (hw : ∀ d ∈ tables_1, d.before a0 Z = true) (ws : List Jvm.Cond) (b : Addr) (kq : ClassId) (b0 : Int32) (b1 : Int32) (b2 : Int32) (b3 : Int32) (h0 : Heap) (O : Ext Z.heap h0) (Ab : Arv Z h0 b kq .byte 1 [(.int (nar .byte (b0.toInt8.toInt32)))] (.int 0)) :
    MetFree l (⟨"com/example/trailcaster/trailcaster/model/ParticipantObjectQueryPinLaw", "same", "([BIIIII)Z"⟩ : MethodName) (head1 (Jvm.Cond.code (⟨"com/example/trailcaster/trailcaster/model/ParticipantObjectQueryPinLaw", "same", "([BIIIII)Z"⟩ : MethodName) method_6_code 6 (some .boolean) :: ws) ({ frames := 1, cells := 0, slots := 0, locals := 14 } : Room)) (fun a_ U_ => a_ = #[(.ref b), (.int (1 : Int32)), (.int b0), (.int b1), (.int b2), (.int b3)] ∧ Z.Warmed39 U_.vm ∧ U_.heap = h0) (fun _ _ _ _ _ => True) (fun _ U_ o_ U2_ => ∃ v_ L_, o_ = .returned v_ ∧ Q_same1 Z b kq b0 b1 b2 b3 h0 v_ U2_.heap L_ ∧ FrameEnd U_ o_ U2_ L_ ({ frames := 1, cells := 0, slots := 0, locals := 14 } : Room).cells ({ frames := 1, cells := 0, slots := 0, locals := 14 } : Room).slots) := by
  refine MetFree.of_bodySF (plainFor_of_name own_pn13) hisR ?_
  intro p e s m args below meth c s₁ Bd hml0 hP hK
  obtain ⟨rfl, hZ, hh⟩ := hP
  have hx := Bd.exec
  have hby := Bd.bytes
  have hml : c.maxLocals = 6 := hml0
  have hown : s.vm.findClass "com/example/trailcaster/trailcaster/model/ParticipantObjectQueryPinLaw" = some m.cls := findClass_of_methodNamed Bd.named
  have hnm := (name_of_methodNamed Bd.named Bd.method).1
  have X0 : Stand p l e ({ frames := 1, cells := 0, slots := 0, locals := 14 } : Room) s m #[(.ref b), (.int (1 : Int32)), (.int b0), (.int b1), (.int b2), (.int b3)] below meth c s₁ [] 0 0 := Stand.of_body Bd
  have e0 : s₁.heap = h0 := by rw [← hh, Bd.state]; rfl
  have N0 := Fr.nil Z.heap.size
  show own_G p e below (fun o_ s₂ => ∃ v_ L_, o_ = .returned v_ ∧ Q_same1 Z b kq b0 b1 b2 b3 h0 v_ s₂.heap L_ ∧ FrameEnd s o_ s₂ L_ ({ frames := 1, cells := 0, slots := 0, locals := 14 } : Room).cells ({ frames := 1, cells := 0, slots := 0, locals := 14 } : Room).slots) (s₁.setTop (entryFrame m #[(.ref b), (.int (1 : Int32)), (.int b0), (.int b1), (.int b2), (.int b3)] 6))
  refine own_go (s₁.setTop (mkF m 0 #[.val (.ref b), .val (.int (1 : Int32)), .val (.int b0), .val (.int b1), .val (.int b2), .val (.int b3)] [])) (fun t_ k_ => castTop (own_ef_same1 m b b0 b1 b2 b3) k_) ?_
  refine own_go (s₁.setTop (mkF m 1 #[.val (.ref b), .val (.int (1 : Int32)), .val (.int b0), .val (.int b1), .val (.int b2), .val (.int b3)] [(.ref b)])) (fun t_ k_ => XS.aloadN X0.here hx rfl (hb hby own_d_method_6_0) rfl rfl k_) ?_
  obtain ⟨cl1, Ar1, q1, Sz1, Nz1, Hz1, Gz1⟩ := id (Ab)
  refine own_go (s₁.setTop (mkF m 2 #[.val (.ref b), .val (.int (1 : Int32)), .val (.int b0), .val (.int b1), .val (.int b2), .val (.int b3)] [(.int (1 : Int32))])) (fun t_ k_ => X0.arraylength hx (by rw [e0]; exact Ar1.1) (State.isArrayOf_alike hZ.alike Ar1.2.1) (g := (mkF m 1 #[.val (.ref b), .val (.int (1 : Int32)), .val (.int b0), .val (.int b1), .val (.int b2), .val (.int b3)] [(.ref b)])) rfl rfl (hb hby own_d_method_6_1) _ (by rw [len_of Sz1 Nz1]; exact k_)) ?_
  refine own_go (s₁.setTop (mkF m 3 #[.val (.ref b), .val (.int (1 : Int32)), .val (.int b0), .val (.int b1), .val (.int b2), .val (.int b3)] [(.int (1 : Int32)), (.int (1 : Int32))])) (fun t_ k_ => XS.iloadN X0.here hx rfl (hb hby own_d_method_6_2) rfl k_) ?_
  refine own_go (s₁.setTop (mkF m 6 #[.val (.ref b), .val (.int (1 : Int32)), .val (.int b0), .val (.int b1), .val (.int b2), .val (.int b3)] [])) (fun t_ k_ => XS.icmpNo X0.here hx rfl (hb hby own_d_method_6_3) rfl (teq (by decide : (1 : Int32) = (1 : Int32))).2 k_) ?_
  refine own_go (s₁.setTop (mkF m 7 #[.val (.ref b), .val (.int (1 : Int32)), .val (.int b0), .val (.int b1), .val (.int b2), .val (.int b3)] [(.ref b)])) (fun t_ k_ => XS.aloadN X0.here hx rfl (hb hby own_d_method_6_6) rfl rfl k_) ?_
  refine own_go (s₁.setTop (mkF m 8 #[.val (.ref b), .val (.int (1 : Int32)), .val (.int b0), .val (.int b1), .val (.int b2), .val (.int b3)] [(.int (0 : Int32)), (.ref b)])) (fun t_ k_ => XS.iconst X0.here hx rfl (hb hby own_d_method_6_7) k_) ?_
  refine own_go (s₁.setTop (mkF m 9 #[.val (.ref b), .val (.int (1 : Int32)), .val (.int b0), .val (.int b1), .val (.int b2), .val (.int b3)] [(.int b0), (.int (0 : Int32)), (.ref b)])) (fun t_ k_ => XS.iloadN X0.here hx rfl (hb hby own_d_method_6_8) rfl k_) ?_
  obtain ⟨_, _, ⟨T2, Lu2, ku2, nu2⟩, -, X2, ⟨Lc2, hQ2, lu2, yu2, zu2⟩, st2⟩ := Jvm.LawKit.callS X0 hx (y := (⟨"com/example/trailcaster/trailcaster/model/ParticipantObjectQueryPinLaw", "at", "([BII)Z"⟩ : MethodName)) hown (mvT hZ (hw _ (List.mem_of_getElem? (i := 227) rfl))) (mvT hZ (hw _ (List.mem_of_getElem? (i := 228) rfl))) (mvT hZ (hw _ (List.mem_of_getElem? (i := 73) rfl))) (mvT hZ (hw _ (List.mem_of_getElem? (i := 229) rfl))) (by decide) (backOf (W := 0) (rm_ati l Z a0 hw [] (b) (kq) ((1 : Int32)) ([(.int (nar .byte (b0.toInt8.toInt32)))]) ((0 : Int32)) (0) (b0) ((nar .byte (b0.toInt8.toInt32))) h0 O Ab (by decide) (by decide) rfl rfl (own_nb b0)) hZ (hw _ (List.mem_of_getElem? (i := 229) rfl)) (hw _ (List.mem_of_getElem? (i := 73) rfl)) (by decide) (by decide)) (g := (mkF m 9 #[.val (.ref b), .val (.int (1 : Int32)), .val (.int b0), .val (.int b1), .val (.int b2), .val (.int b3)] [(.int b0), (.int (0 : Int32)), (.ref b)])) rfl (by rw [hml]; rfl) (argsL := [(.ref b), (.int (0 : Int32)), (.int b0)]) (rest := []) (lenOf own_pd12 rfl) rfl (by show 2 * 0 + _ ≤ _; exact Nat.le_of_eq rfl) (hb hby own_d_method_6_9) (fun _ _ => ⟨rfl, e0, (by decide : 0 + 0 ≤ _), (by decide : 0 + 0 ≤ _)⟩)
  dsimp only [Pt.U, Pt.locs, Pt.cells, Pt.slots] at X2 lu2 yu2 zu2 st2 hQ2
  subst lu2 yu2 zu2
  obtain ⟨rfl, N2q, e2⟩ := hQ2
  have N2 := Fr.app N0 N2q
  refine own_go (T2.setTop (mkF m 12 #[.val (.ref b), .val (.int (1 : Int32)), .val (.int b0), .val (.int b1), .val (.int b2), .val (.int b3)] [(.int (1 : Int32))])) (fun t_ k_ => st2 _ k_) ?_
  refine own_go (T2.setTop (mkF m 15 #[.val (.ref b), .val (.int (1 : Int32)), .val (.int b0), .val (.int b1), .val (.int b2), .val (.int b3)] [])) (fun t_ k_ => XS.ifNo X2.here hx rfl (hb hby own_d_method_6_12) rfl ((if0 _ _).trans (feq (by decide : ¬ ((1 : Int32) = (0 : Int32)))).1) k_) ?_
  refine own_go (T2.setTop (mkF m 16 #[.val (.ref b), .val (.int (1 : Int32)), .val (.int b0), .val (.int b1), .val (.int b2), .val (.int b3)] [(.ref b)])) (fun t_ k_ => XS.aloadN X2.here hx rfl (hb hby own_d_method_6_15) rfl rfl k_) ?_
  refine own_go (T2.setTop (mkF m 17 #[.val (.ref b), .val (.int (1 : Int32)), .val (.int b0), .val (.int b1), .val (.int b2), .val (.int b3)] [(.int (1 : Int32)), (.ref b)])) (fun t_ k_ => XS.iconst X2.here hx rfl (hb hby own_d_method_6_16) k_) ?_
  refine own_go (T2.setTop (mkF m 18 #[.val (.ref b), .val (.int (1 : Int32)), .val (.int b0), .val (.int b1), .val (.int b2), .val (.int b3)] [(.int b1), (.int (1 : Int32)), (.ref b)])) (fun t_ k_ => XS.iloadN X2.here hx rfl (hb hby own_d_method_6_17) rfl k_) ?_
  obtain ⟨_, _, ⟨T3, Lu3, ku3, nu3⟩, -, X3, ⟨Lc3, hQ3, lu3, yu3, zu3⟩, st3⟩ := Jvm.LawKit.callS X2 hx (y := (⟨"com/example/trailcaster/trailcaster/model/ParticipantObjectQueryPinLaw", "at", "([BII)Z"⟩ : MethodName)) hown (mvT hZ (hw _ (List.mem_of_getElem? (i := 227) rfl))) (mvT hZ (hw _ (List.mem_of_getElem? (i := 228) rfl))) (mvT hZ (hw _ (List.mem_of_getElem? (i := 73) rfl))) (mvT hZ (hw _ (List.mem_of_getElem? (i := 229) rfl))) (by decide) (backOf (W := 0) (rm_ato l Z a0 hw [] (b) (kq) ((1 : Int32)) ([(.int (nar .byte (b0.toInt8.toInt32)))]) ((1 : Int32)) (b1) h0 O Ab (by decide)) hZ (hw _ (List.mem_of_getElem? (i := 229) rfl)) (hw _ (List.mem_of_getElem? (i := 73) rfl)) (by decide) (by decide)) (g := (mkF m 18 #[.val (.ref b), .val (.int (1 : Int32)), .val (.int b0), .val (.int b1), .val (.int b2), .val (.int b3)] [(.int b1), (.int (1 : Int32)), (.ref b)])) rfl (by rw [hml]; rfl) (argsL := [(.ref b), (.int (1 : Int32)), (.int b1)]) (rest := []) (lenOf own_pd12 rfl) rfl (by show 2 * 0 + _ ≤ _; exact Nat.le_of_eq rfl) (hb hby own_d_method_6_18) (fun _ _ => ⟨rfl, e2, (by decide : 0 + 0 ≤ _), (by decide : 0 + 0 ≤ _)⟩)
  dsimp only [Pt.U, Pt.locs, Pt.cells, Pt.slots] at X3 lu3 yu3 zu3 st3 hQ3
  subst lu3 yu3 zu3
  obtain ⟨rfl, N3q, e3⟩ := hQ3
  have N3 := Fr.app N2 N3q
  refine own_go (T3.setTop (mkF m 21 #[.val (.ref b), .val (.int (1 : Int32)), .val (.int b0), .val (.int b1), .val (.int b2), .val (.int b3)] [(.int (1 : Int32))])) (fun t_ k_ => st3 _ k_) ?_
  refine own_go (T3.setTop (mkF m 24 #[.val (.ref b), .val (.int (1 : Int32)), .val (.int b0), .val (.int b1), .val (.int b2), .val (.int b3)] [])) (fun t_ k_ => XS.ifNo X3.here hx rfl (hb hby own_d_method_6_21) rfl ((if0 _ _).trans (feq (by decide : ¬ ((1 : Int32) = (0 : Int32)))).1) k_) ?_
  refine own_go (T3.setTop (mkF m 25 #[.val (.ref b), .val (.int (1 : Int32)), .val (.int b0), .val (.int b1), .val (.int b2), .val (.int b3)] [(.ref b)])) (fun t_ k_ => XS.aloadN X3.here hx rfl (hb hby own_d_method_6_24) rfl rfl k_) ?_
  refine own_go (T3.setTop (mkF m 26 #[.val (.ref b), .val (.int (1 : Int32)), .val (.int b0), .val (.int b1), .val (.int b2), .val (.int b3)] [(.int (2 : Int32)), (.ref b)])) (fun t_ k_ => XS.iconst X3.here hx rfl (hb hby own_d_method_6_25) k_) ?_
  refine own_go (T3.setTop (mkF m 28 #[.val (.ref b), .val (.int (1 : Int32)), .val (.int b0), .val (.int b1), .val (.int b2), .val (.int b3)] [(.int b2), (.int (2 : Int32)), (.ref b)])) (fun t_ k_ => XS.iload X3.here hx rfl (hb hby own_d_method_6_26) rfl k_) ?_
  obtain ⟨_, _, ⟨T4, Lu4, ku4, nu4⟩, -, X4, ⟨Lc4, hQ4, lu4, yu4, zu4⟩, st4⟩ := Jvm.LawKit.callS X3 hx (y := (⟨"com/example/trailcaster/trailcaster/model/ParticipantObjectQueryPinLaw", "at", "([BII)Z"⟩ : MethodName)) hown (mvT hZ (hw _ (List.mem_of_getElem? (i := 227) rfl))) (mvT hZ (hw _ (List.mem_of_getElem? (i := 228) rfl))) (mvT hZ (hw _ (List.mem_of_getElem? (i := 73) rfl))) (mvT hZ (hw _ (List.mem_of_getElem? (i := 229) rfl))) (by decide) (backOf (W := 0) (rm_ato l Z a0 hw [] (b) (kq) ((1 : Int32)) ([(.int (nar .byte (b0.toInt8.toInt32)))]) ((2 : Int32)) (b2) h0 O Ab (by decide)) hZ (hw _ (List.mem_of_getElem? (i := 229) rfl)) (hw _ (List.mem_of_getElem? (i := 73) rfl)) (by decide) (by decide)) (g := (mkF m 28 #[.val (.ref b), .val (.int (1 : Int32)), .val (.int b0), .val (.int b1), .val (.int b2), .val (.int b3)] [(.int b2), (.int (2 : Int32)), (.ref b)])) rfl (by rw [hml]; rfl) (argsL := [(.ref b), (.int (2 : Int32)), (.int b2)]) (rest := []) (lenOf own_pd12 rfl) rfl (by show 2 * 0 + _ ≤ _; exact Nat.le_of_eq rfl) (hb hby own_d_method_6_28) (fun _ _ => ⟨rfl, e3, (by decide : 0 + 0 ≤ _), (by decide : 0 + 0 ≤ _)⟩)
  dsimp only [Pt.U, Pt.locs, Pt.cells, Pt.slots] at X4 lu4 yu4 zu4 st4 hQ4
  subst lu4 yu4 zu4
  obtain ⟨rfl, N4q, e4⟩ := hQ4
  have N4 := Fr.app N3 N4q
  refine own_go (T4.setTop (mkF m 31 #[.val (.ref b), .val (.int (1 : Int32)), .val (.int b0), .val (.int b1), .val (.int b2), .val (.int b3)] [(.int (1 : Int32))])) (fun t_ k_ => st4 _ k_) ?_
  refine own_go (T4.setTop (mkF m 34 #[.val (.ref b), .val (.int (1 : Int32)), .val (.int b0), .val (.int b1), .val (.int b2), .val (.int b3)] [])) (fun t_ k_ => XS.ifNo X4.here hx rfl (hb hby own_d_method_6_31) rfl ((if0 _ _).trans (feq (by decide : ¬ ((1 : Int32) = (0 : Int32)))).1) k_) ?_
  refine own_go (T4.setTop (mkF m 35 #[.val (.ref b), .val (.int (1 : Int32)), .val (.int b0), .val (.int b1), .val (.int b2), .val (.int b3)] [(.ref b)])) (fun t_ k_ => XS.aloadN X4.here hx rfl (hb hby own_d_method_6_34) rfl rfl k_) ?_
  refine own_go (T4.setTop (mkF m 36 #[.val (.ref b), .val (.int (1 : Int32)), .val (.int b0), .val (.int b1), .val (.int b2), .val (.int b3)] [(.int (3 : Int32)), (.ref b)])) (fun t_ k_ => XS.iconst X4.here hx rfl (hb hby own_d_method_6_35) k_) ?_
  refine own_go (T4.setTop (mkF m 38 #[.val (.ref b), .val (.int (1 : Int32)), .val (.int b0), .val (.int b1), .val (.int b2), .val (.int b3)] [(.int b3), (.int (3 : Int32)), (.ref b)])) (fun t_ k_ => XS.iload X4.here hx rfl (hb hby own_d_method_6_36) rfl k_) ?_
  obtain ⟨_, _, ⟨T5, Lu5, ku5, nu5⟩, -, X5, ⟨Lc5, hQ5, lu5, yu5, zu5⟩, st5⟩ := Jvm.LawKit.callS X4 hx (y := (⟨"com/example/trailcaster/trailcaster/model/ParticipantObjectQueryPinLaw", "at", "([BII)Z"⟩ : MethodName)) hown (mvT hZ (hw _ (List.mem_of_getElem? (i := 227) rfl))) (mvT hZ (hw _ (List.mem_of_getElem? (i := 228) rfl))) (mvT hZ (hw _ (List.mem_of_getElem? (i := 73) rfl))) (mvT hZ (hw _ (List.mem_of_getElem? (i := 229) rfl))) (by decide) (backOf (W := 0) (rm_ato l Z a0 hw [] (b) (kq) ((1 : Int32)) ([(.int (nar .byte (b0.toInt8.toInt32)))]) ((3 : Int32)) (b3) h0 O Ab (by decide)) hZ (hw _ (List.mem_of_getElem? (i := 229) rfl)) (hw _ (List.mem_of_getElem? (i := 73) rfl)) (by decide) (by decide)) (g := (mkF m 38 #[.val (.ref b), .val (.int (1 : Int32)), .val (.int b0), .val (.int b1), .val (.int b2), .val (.int b3)] [(.int b3), (.int (3 : Int32)), (.ref b)])) rfl (by rw [hml]; rfl) (argsL := [(.ref b), (.int (3 : Int32)), (.int b3)]) (rest := []) (lenOf own_pd12 rfl) rfl (by show 2 * 0 + _ ≤ _; exact Nat.le_of_eq rfl) (hb hby own_d_method_6_38) (fun _ _ => ⟨rfl, e4, (by decide : 0 + 0 ≤ _), (by decide : 0 + 0 ≤ _)⟩)
  dsimp only [Pt.U, Pt.locs, Pt.cells, Pt.slots] at X5 lu5 yu5 zu5 st5 hQ5
  subst lu5 yu5 zu5
  obtain ⟨rfl, N5q, e5⟩ := hQ5
  have N5 := Fr.app N4 N5q
  refine own_go (T5.setTop (mkF m 41 #[.val (.ref b), .val (.int (1 : Int32)), .val (.int b0), .val (.int b1), .val (.int b2), .val (.int b3)] [(.int (1 : Int32))])) (fun t_ k_ => st5 _ k_) ?_
  refine own_go (T5.setTop (mkF m 44 #[.val (.ref b), .val (.int (1 : Int32)), .val (.int b0), .val (.int b1), .val (.int b2), .val (.int b3)] [])) (fun t_ k_ => XS.ifNo X5.here hx rfl (hb hby own_d_method_6_41) rfl ((if0 _ _).trans (feq (by decide : ¬ ((1 : Int32) = (0 : Int32)))).1) k_) ?_
  refine own_go (T5.setTop (mkF m 45 #[.val (.ref b), .val (.int (1 : Int32)), .val (.int b0), .val (.int b1), .val (.int b2), .val (.int b3)] [(.int (1 : Int32))])) (fun t_ k_ => XS.iconst X5.here hx rfl (hb hby own_d_method_6_44) k_) ?_
  refine own_go (T5.setTop (mkF m 49 #[.val (.ref b), .val (.int (1 : Int32)), .val (.int b0), .val (.int b1), .val (.int b2), .val (.int b3)] [(.int (1 : Int32))])) (fun t_ k_ => XS.goto X5.here hx rfl (pc0 := 45) (pc' := 49) rfl (hb hby own_d_method_6_45) (by decide) (by decide) k_) ?_
  obtain ⟨fs, hr, hrun, hended, hW, hsame⟩ := X5.leave (v := some (.int (nar .boolean (1 : Int32)))) (fun h => by rw [Bd.returns] at h; cases h)
  refine ⟨_, _, retN X5 hx (t := .boolean) Bd.returns (by simp) (hb hby own_d_method_6_49) hr, hrun, hended, _, _, rfl, ?_, ⟨_, rfl⟩, hW, hsame.mono (by decide) (by decide)⟩
  show Q_same1 Z b kq b0 b1 b2 b3 h0 _ T5.heap _
  exact ⟨rfl, N5, e5⟩
theorem own_ef_same2 (m : MethodId) (b : Addr) (b0 : Int32) (b1 : Int32) (b2 : Int32) (b3 : Int32) : entryFrame m #[(.ref b), (.int (2 : Int32)), (.int b0), (.int b1), (.int b2), (.int b3)] 6 = mkF m 0 #[.val (.ref b), .val (.int (2 : Int32)), .val (.int b0), .val (.int b1), .val (.int b2), .val (.int b3)] [] := by first | (simp [entryFrame, mkF, argsToLocals, Value.category]; done) | rfl
def Q_same2 (Z : State) (b : Addr) (kq : ClassId) (b0 : Int32) (b1 : Int32) (b2 : Int32) (b3 : Int32) (h0 : Heap) (v_ : Option Value) (h : Heap) (L_ : List Loc) : Prop := v_ = some (.int 1) ∧ Fr Z.heap.size L_ ∧ (h = h0)
set_option maxRecDepth 65536 in
set_option maxHeartbeats 40000000 in
theorem rm_same2 (l : Launch) (Z : State) (a0 : Array Value) (hw : ∀ d ∈ tables_1, d.before a0 Z = true) (ws : List Jvm.Cond) (b : Addr) (kq : ClassId) (b0 : Int32) (b1 : Int32) (b2 : Int32) (b3 : Int32) (h0 : Heap) (O : Ext Z.heap h0) (Ab : Arv Z h0 b kq .byte 2 [(.int (nar .byte (b0.toInt8.toInt32))), (.int (nar .byte (b1.toInt8.toInt32)))] (.int 0)) :
    MetFree l (⟨"com/example/trailcaster/trailcaster/model/ParticipantObjectQueryPinLaw", "same", "([BIIIII)Z"⟩ : MethodName) (head1 (Jvm.Cond.code (⟨"com/example/trailcaster/trailcaster/model/ParticipantObjectQueryPinLaw", "same", "([BIIIII)Z"⟩ : MethodName) method_6_code 6 (some .boolean) :: ws) ({ frames := 1, cells := 0, slots := 0, locals := 14 } : Room)) (fun a_ U_ => a_ = #[(.ref b), (.int (2 : Int32)), (.int b0), (.int b1), (.int b2), (.int b3)] ∧ Z.Warmed39 U_.vm ∧ U_.heap = h0) (fun _ _ _ _ _ => True) (fun _ U_ o_ U2_ => ∃ v_ L_, o_ = .returned v_ ∧ Q_same2 Z b kq b0 b1 b2 b3 h0 v_ U2_.heap L_ ∧ FrameEnd U_ o_ U2_ L_ ({ frames := 1, cells := 0, slots := 0, locals := 14 } : Room).cells ({ frames := 1, cells := 0, slots := 0, locals := 14 } : Room).slots) := by
  refine MetFree.of_bodySF (plainFor_of_name own_pn13) hisR ?_
  intro p e s m args below meth c s₁ Bd hml0 hP hK
  obtain ⟨rfl, hZ, hh⟩ := hP
  have hx := Bd.exec
  have hby := Bd.bytes
  have hml : c.maxLocals = 6 := hml0
  have hown : s.vm.findClass "com/example/trailcaster/trailcaster/model/ParticipantObjectQueryPinLaw" = some m.cls := findClass_of_methodNamed Bd.named
  have hnm := (name_of_methodNamed Bd.named Bd.method).1
  have X0 : Stand p l e ({ frames := 1, cells := 0, slots := 0, locals := 14 } : Room) s m #[(.ref b), (.int (2 : Int32)), (.int b0), (.int b1), (.int b2), (.int b3)] below meth c s₁ [] 0 0 := Stand.of_body Bd
  have e0 : s₁.heap = h0 := by rw [← hh, Bd.state]; rfl
  have N0 := Fr.nil Z.heap.size
  show own_G p e below (fun o_ s₂ => ∃ v_ L_, o_ = .returned v_ ∧ Q_same2 Z b kq b0 b1 b2 b3 h0 v_ s₂.heap L_ ∧ FrameEnd s o_ s₂ L_ ({ frames := 1, cells := 0, slots := 0, locals := 14 } : Room).cells ({ frames := 1, cells := 0, slots := 0, locals := 14 } : Room).slots) (s₁.setTop (entryFrame m #[(.ref b), (.int (2 : Int32)), (.int b0), (.int b1), (.int b2), (.int b3)] 6))
  refine own_go (s₁.setTop (mkF m 0 #[.val (.ref b), .val (.int (2 : Int32)), .val (.int b0), .val (.int b1), .val (.int b2), .val (.int b3)] [])) (fun t_ k_ => castTop (own_ef_same2 m b b0 b1 b2 b3) k_) ?_
  refine own_go (s₁.setTop (mkF m 1 #[.val (.ref b), .val (.int (2 : Int32)), .val (.int b0), .val (.int b1), .val (.int b2), .val (.int b3)] [(.ref b)])) (fun t_ k_ => XS.aloadN X0.here hx rfl (hb hby own_d_method_6_0) rfl rfl k_) ?_
  obtain ⟨cl1, Ar1, q1, Sz1, Nz1, Hz1, Gz1⟩ := id (Ab)
  refine own_go (s₁.setTop (mkF m 2 #[.val (.ref b), .val (.int (2 : Int32)), .val (.int b0), .val (.int b1), .val (.int b2), .val (.int b3)] [(.int (2 : Int32))])) (fun t_ k_ => X0.arraylength hx (by rw [e0]; exact Ar1.1) (State.isArrayOf_alike hZ.alike Ar1.2.1) (g := (mkF m 1 #[.val (.ref b), .val (.int (2 : Int32)), .val (.int b0), .val (.int b1), .val (.int b2), .val (.int b3)] [(.ref b)])) rfl rfl (hb hby own_d_method_6_1) _ (by rw [len_of Sz1 Nz1]; exact k_)) ?_
  refine own_go (s₁.setTop (mkF m 3 #[.val (.ref b), .val (.int (2 : Int32)), .val (.int b0), .val (.int b1), .val (.int b2), .val (.int b3)] [(.int (2 : Int32)), (.int (2 : Int32))])) (fun t_ k_ => XS.iloadN X0.here hx rfl (hb hby own_d_method_6_2) rfl k_) ?_
  refine own_go (s₁.setTop (mkF m 6 #[.val (.ref b), .val (.int (2 : Int32)), .val (.int b0), .val (.int b1), .val (.int b2), .val (.int b3)] [])) (fun t_ k_ => XS.icmpNo X0.here hx rfl (hb hby own_d_method_6_3) rfl (teq (by decide : (2 : Int32) = (2 : Int32))).2 k_) ?_
  refine own_go (s₁.setTop (mkF m 7 #[.val (.ref b), .val (.int (2 : Int32)), .val (.int b0), .val (.int b1), .val (.int b2), .val (.int b3)] [(.ref b)])) (fun t_ k_ => XS.aloadN X0.here hx rfl (hb hby own_d_method_6_6) rfl rfl k_) ?_
  refine own_go (s₁.setTop (mkF m 8 #[.val (.ref b), .val (.int (2 : Int32)), .val (.int b0), .val (.int b1), .val (.int b2), .val (.int b3)] [(.int (0 : Int32)), (.ref b)])) (fun t_ k_ => XS.iconst X0.here hx rfl (hb hby own_d_method_6_7) k_) ?_
  refine own_go (s₁.setTop (mkF m 9 #[.val (.ref b), .val (.int (2 : Int32)), .val (.int b0), .val (.int b1), .val (.int b2), .val (.int b3)] [(.int b0), (.int (0 : Int32)), (.ref b)])) (fun t_ k_ => XS.iloadN X0.here hx rfl (hb hby own_d_method_6_8) rfl k_) ?_
  obtain ⟨_, _, ⟨T2, Lu2, ku2, nu2⟩, -, X2, ⟨Lc2, hQ2, lu2, yu2, zu2⟩, st2⟩ := Jvm.LawKit.callS X0 hx (y := (⟨"com/example/trailcaster/trailcaster/model/ParticipantObjectQueryPinLaw", "at", "([BII)Z"⟩ : MethodName)) hown (mvT hZ (hw _ (List.mem_of_getElem? (i := 227) rfl))) (mvT hZ (hw _ (List.mem_of_getElem? (i := 228) rfl))) (mvT hZ (hw _ (List.mem_of_getElem? (i := 73) rfl))) (mvT hZ (hw _ (List.mem_of_getElem? (i := 229) rfl))) (by decide) (backOf (W := 0) (rm_ati l Z a0 hw [] (b) (kq) ((2 : Int32)) ([(.int (nar .byte (b0.toInt8.toInt32))), (.int (nar .byte (b1.toInt8.toInt32)))]) ((0 : Int32)) (0) (b0) ((nar .byte (b0.toInt8.toInt32))) h0 O Ab (by decide) (by decide) rfl rfl (own_nb b0)) hZ (hw _ (List.mem_of_getElem? (i := 229) rfl)) (hw _ (List.mem_of_getElem? (i := 73) rfl)) (by decide) (by decide)) (g := (mkF m 9 #[.val (.ref b), .val (.int (2 : Int32)), .val (.int b0), .val (.int b1), .val (.int b2), .val (.int b3)] [(.int b0), (.int (0 : Int32)), (.ref b)])) rfl (by rw [hml]; rfl) (argsL := [(.ref b), (.int (0 : Int32)), (.int b0)]) (rest := []) (lenOf own_pd12 rfl) rfl (by show 2 * 0 + _ ≤ _; exact Nat.le_of_eq rfl) (hb hby own_d_method_6_9) (fun _ _ => ⟨rfl, e0, (by decide : 0 + 0 ≤ _), (by decide : 0 + 0 ≤ _)⟩)
  dsimp only [Pt.U, Pt.locs, Pt.cells, Pt.slots] at X2 lu2 yu2 zu2 st2 hQ2
  subst lu2 yu2 zu2
  obtain ⟨rfl, N2q, e2⟩ := hQ2
  have N2 := Fr.app N0 N2q
  refine own_go (T2.setTop (mkF m 12 #[.val (.ref b), .val (.int (2 : Int32)), .val (.int b0), .val (.int b1), .val (.int b2), .val (.int b3)] [(.int (1 : Int32))])) (fun t_ k_ => st2 _ k_) ?_
  refine own_go (T2.setTop (mkF m 15 #[.val (.ref b), .val (.int (2 : Int32)), .val (.int b0), .val (.int b1), .val (.int b2), .val (.int b3)] [])) (fun t_ k_ => XS.ifNo X2.here hx rfl (hb hby own_d_method_6_12) rfl ((if0 _ _).trans (feq (by decide : ¬ ((1 : Int32) = (0 : Int32)))).1) k_) ?_
  refine own_go (T2.setTop (mkF m 16 #[.val (.ref b), .val (.int (2 : Int32)), .val (.int b0), .val (.int b1), .val (.int b2), .val (.int b3)] [(.ref b)])) (fun t_ k_ => XS.aloadN X2.here hx rfl (hb hby own_d_method_6_15) rfl rfl k_) ?_
  refine own_go (T2.setTop (mkF m 17 #[.val (.ref b), .val (.int (2 : Int32)), .val (.int b0), .val (.int b1), .val (.int b2), .val (.int b3)] [(.int (1 : Int32)), (.ref b)])) (fun t_ k_ => XS.iconst X2.here hx rfl (hb hby own_d_method_6_16) k_) ?_
  refine own_go (T2.setTop (mkF m 18 #[.val (.ref b), .val (.int (2 : Int32)), .val (.int b0), .val (.int b1), .val (.int b2), .val (.int b3)] [(.int b1), (.int (1 : Int32)), (.ref b)])) (fun t_ k_ => XS.iloadN X2.here hx rfl (hb hby own_d_method_6_17) rfl k_) ?_
  obtain ⟨_, _, ⟨T3, Lu3, ku3, nu3⟩, -, X3, ⟨Lc3, hQ3, lu3, yu3, zu3⟩, st3⟩ := Jvm.LawKit.callS X2 hx (y := (⟨"com/example/trailcaster/trailcaster/model/ParticipantObjectQueryPinLaw", "at", "([BII)Z"⟩ : MethodName)) hown (mvT hZ (hw _ (List.mem_of_getElem? (i := 227) rfl))) (mvT hZ (hw _ (List.mem_of_getElem? (i := 228) rfl))) (mvT hZ (hw _ (List.mem_of_getElem? (i := 73) rfl))) (mvT hZ (hw _ (List.mem_of_getElem? (i := 229) rfl))) (by decide) (backOf (W := 0) (rm_ati l Z a0 hw [] (b) (kq) ((2 : Int32)) ([(.int (nar .byte (b0.toInt8.toInt32))), (.int (nar .byte (b1.toInt8.toInt32)))]) ((1 : Int32)) (1) (b1) ((nar .byte (b1.toInt8.toInt32))) h0 O Ab (by decide) (by decide) rfl rfl (own_nb b1)) hZ (hw _ (List.mem_of_getElem? (i := 229) rfl)) (hw _ (List.mem_of_getElem? (i := 73) rfl)) (by decide) (by decide)) (g := (mkF m 18 #[.val (.ref b), .val (.int (2 : Int32)), .val (.int b0), .val (.int b1), .val (.int b2), .val (.int b3)] [(.int b1), (.int (1 : Int32)), (.ref b)])) rfl (by rw [hml]; rfl) (argsL := [(.ref b), (.int (1 : Int32)), (.int b1)]) (rest := []) (lenOf own_pd12 rfl) rfl (by show 2 * 0 + _ ≤ _; exact Nat.le_of_eq rfl) (hb hby own_d_method_6_18) (fun _ _ => ⟨rfl, e2, (by decide : 0 + 0 ≤ _), (by decide : 0 + 0 ≤ _)⟩)
  dsimp only [Pt.U, Pt.locs, Pt.cells, Pt.slots] at X3 lu3 yu3 zu3 st3 hQ3
  subst lu3 yu3 zu3
  obtain ⟨rfl, N3q, e3⟩ := hQ3
  have N3 := Fr.app N2 N3q
  refine own_go (T3.setTop (mkF m 21 #[.val (.ref b), .val (.int (2 : Int32)), .val (.int b0), .val (.int b1), .val (.int b2), .val (.int b3)] [(.int (1 : Int32))])) (fun t_ k_ => st3 _ k_) ?_
  refine own_go (T3.setTop (mkF m 24 #[.val (.ref b), .val (.int (2 : Int32)), .val (.int b0), .val (.int b1), .val (.int b2), .val (.int b3)] [])) (fun t_ k_ => XS.ifNo X3.here hx rfl (hb hby own_d_method_6_21) rfl ((if0 _ _).trans (feq (by decide : ¬ ((1 : Int32) = (0 : Int32)))).1) k_) ?_
  refine own_go (T3.setTop (mkF m 25 #[.val (.ref b), .val (.int (2 : Int32)), .val (.int b0), .val (.int b1), .val (.int b2), .val (.int b3)] [(.ref b)])) (fun t_ k_ => XS.aloadN X3.here hx rfl (hb hby own_d_method_6_24) rfl rfl k_) ?_
  refine own_go (T3.setTop (mkF m 26 #[.val (.ref b), .val (.int (2 : Int32)), .val (.int b0), .val (.int b1), .val (.int b2), .val (.int b3)] [(.int (2 : Int32)), (.ref b)])) (fun t_ k_ => XS.iconst X3.here hx rfl (hb hby own_d_method_6_25) k_) ?_
  refine own_go (T3.setTop (mkF m 28 #[.val (.ref b), .val (.int (2 : Int32)), .val (.int b0), .val (.int b1), .val (.int b2), .val (.int b3)] [(.int b2), (.int (2 : Int32)), (.ref b)])) (fun t_ k_ => XS.iload X3.here hx rfl (hb hby own_d_method_6_26) rfl k_) ?_
  obtain ⟨_, _, ⟨T4, Lu4, ku4, nu4⟩, -, X4, ⟨Lc4, hQ4, lu4, yu4, zu4⟩, st4⟩ := Jvm.LawKit.callS X3 hx (y := (⟨"com/example/trailcaster/trailcaster/model/ParticipantObjectQueryPinLaw", "at", "([BII)Z"⟩ : MethodName)) hown (mvT hZ (hw _ (List.mem_of_getElem? (i := 227) rfl))) (mvT hZ (hw _ (List.mem_of_getElem? (i := 228) rfl))) (mvT hZ (hw _ (List.mem_of_getElem? (i := 73) rfl))) (mvT hZ (hw _ (List.mem_of_getElem? (i := 229) rfl))) (by decide) (backOf (W := 0) (rm_ato l Z a0 hw [] (b) (kq) ((2 : Int32)) ([(.int (nar .byte (b0.toInt8.toInt32))), (.int (nar .byte (b1.toInt8.toInt32)))]) ((2 : Int32)) (b2) h0 O Ab (by decide)) hZ (hw _ (List.mem_of_getElem? (i := 229) rfl)) (hw _ (List.mem_of_getElem? (i := 73) rfl)) (by decide) (by decide)) (g := (mkF m 28 #[.val (.ref b), .val (.int (2 : Int32)), .val (.int b0), .val (.int b1), .val (.int b2), .val (.int b3)] [(.int b2), (.int (2 : Int32)), (.ref b)])) rfl (by rw [hml]; rfl) (argsL := [(.ref b), (.int (2 : Int32)), (.int b2)]) (rest := []) (lenOf own_pd12 rfl) rfl (by show 2 * 0 + _ ≤ _; exact Nat.le_of_eq rfl) (hb hby own_d_method_6_28) (fun _ _ => ⟨rfl, e3, (by decide : 0 + 0 ≤ _), (by decide : 0 + 0 ≤ _)⟩)
  dsimp only [Pt.U, Pt.locs, Pt.cells, Pt.slots] at X4 lu4 yu4 zu4 st4 hQ4
  subst lu4 yu4 zu4
  obtain ⟨rfl, N4q, e4⟩ := hQ4
  have N4 := Fr.app N3 N4q
  refine own_go (T4.setTop (mkF m 31 #[.val (.ref b), .val (.int (2 : Int32)), .val (.int b0), .val (.int b1), .val (.int b2), .val (.int b3)] [(.int (1 : Int32))])) (fun t_ k_ => st4 _ k_) ?_
  refine own_go (T4.setTop (mkF m 34 #[.val (.ref b), .val (.int (2 : Int32)), .val (.int b0), .val (.int b1), .val (.int b2), .val (.int b3)] [])) (fun t_ k_ => XS.ifNo X4.here hx rfl (hb hby own_d_method_6_31) rfl ((if0 _ _).trans (feq (by decide : ¬ ((1 : Int32) = (0 : Int32)))).1) k_) ?_
  refine own_go (T4.setTop (mkF m 35 #[.val (.ref b), .val (.int (2 : Int32)), .val (.int b0), .val (.int b1), .val (.int b2), .val (.int b3)] [(.ref b)])) (fun t_ k_ => XS.aloadN X4.here hx rfl (hb hby own_d_method_6_34) rfl rfl k_) ?_
  refine own_go (T4.setTop (mkF m 36 #[.val (.ref b), .val (.int (2 : Int32)), .val (.int b0), .val (.int b1), .val (.int b2), .val (.int b3)] [(.int (3 : Int32)), (.ref b)])) (fun t_ k_ => XS.iconst X4.here hx rfl (hb hby own_d_method_6_35) k_) ?_
  refine own_go (T4.setTop (mkF m 38 #[.val (.ref b), .val (.int (2 : Int32)), .val (.int b0), .val (.int b1), .val (.int b2), .val (.int b3)] [(.int b3), (.int (3 : Int32)), (.ref b)])) (fun t_ k_ => XS.iload X4.here hx rfl (hb hby own_d_method_6_36) rfl k_) ?_
  obtain ⟨_, _, ⟨T5, Lu5, ku5, nu5⟩, -, X5, ⟨Lc5, hQ5, lu5, yu5, zu5⟩, st5⟩ := Jvm.LawKit.callS X4 hx (y := (⟨"com/example/trailcaster/trailcaster/model/ParticipantObjectQueryPinLaw", "at", "([BII)Z"⟩ : MethodName)) hown (mvT hZ (hw _ (List.mem_of_getElem? (i := 227) rfl))) (mvT hZ (hw _ (List.mem_of_getElem? (i := 228) rfl))) (mvT hZ (hw _ (List.mem_of_getElem? (i := 73) rfl))) (mvT hZ (hw _ (List.mem_of_getElem? (i := 229) rfl))) (by decide) (backOf (W := 0) (rm_ato l Z a0 hw [] (b) (kq) ((2 : Int32)) ([(.int (nar .byte (b0.toInt8.toInt32))), (.int (nar .byte (b1.toInt8.toInt32)))]) ((3 : Int32)) (b3) h0 O Ab (by decide)) hZ (hw _ (List.mem_of_getElem? (i := 229) rfl)) (hw _ (List.mem_of_getElem? (i := 73) rfl)) (by decide) (by decide)) (g := (mkF m 38 #[.val (.ref b), .val (.int (2 : Int32)), .val (.int b0), .val (.int b1), .val (.int b2), .val (.int b3)] [(.int b3), (.int (3 : Int32)), (.ref b)])) rfl (by rw [hml]; rfl) (argsL := [(.ref b), (.int (3 : Int32)), (.int b3)]) (rest := []) (lenOf own_pd12 rfl) rfl (by show 2 * 0 + _ ≤ _; exact Nat.le_of_eq rfl) (hb hby own_d_method_6_38) (fun _ _ => ⟨rfl, e4, (by decide : 0 + 0 ≤ _), (by decide : 0 + 0 ≤ _)⟩)
  dsimp only [Pt.U, Pt.locs, Pt.cells, Pt.slots] at X5 lu5 yu5 zu5 st5 hQ5
  subst lu5 yu5 zu5
  obtain ⟨rfl, N5q, e5⟩ := hQ5
  have N5 := Fr.app N4 N5q
  refine own_go (T5.setTop (mkF m 41 #[.val (.ref b), .val (.int (2 : Int32)), .val (.int b0), .val (.int b1), .val (.int b2), .val (.int b3)] [(.int (1 : Int32))])) (fun t_ k_ => st5 _ k_) ?_
  refine own_go (T5.setTop (mkF m 44 #[.val (.ref b), .val (.int (2 : Int32)), .val (.int b0), .val (.int b1), .val (.int b2), .val (.int b3)] [])) (fun t_ k_ => XS.ifNo X5.here hx rfl (hb hby own_d_method_6_41) rfl ((if0 _ _).trans (feq (by decide : ¬ ((1 : Int32) = (0 : Int32)))).1) k_) ?_
  refine own_go (T5.setTop (mkF m 45 #[.val (.ref b), .val (.int (2 : Int32)), .val (.int b0), .val (.int b1), .val (.int b2), .val (.int b3)] [(.int (1 : Int32))])) (fun t_ k_ => XS.iconst X5.here hx rfl (hb hby own_d_method_6_44) k_) ?_
  refine own_go (T5.setTop (mkF m 49 #[.val (.ref b), .val (.int (2 : Int32)), .val (.int b0), .val (.int b1), .val (.int b2), .val (.int b3)] [(.int (1 : Int32))])) (fun t_ k_ => XS.goto X5.here hx rfl (pc0 := 45) (pc' := 49) rfl (hb hby own_d_method_6_45) (by decide) (by decide) k_) ?_
  obtain ⟨fs, hr, hrun, hended, hW, hsame⟩ := X5.leave (v := some (.int (nar .boolean (1 : Int32)))) (fun h => by rw [Bd.returns] at h; cases h)
  refine ⟨_, _, retN X5 hx (t := .boolean) Bd.returns (by simp) (hb hby own_d_method_6_49) hr, hrun, hended, _, _, rfl, ?_, ⟨_, rfl⟩, hW, hsame.mono (by decide) (by decide)⟩
  show Q_same2 Z b kq b0 b1 b2 b3 h0 _ T5.heap _
  exact ⟨rfl, N5, e5⟩
theorem own_ef_same3 (m : MethodId) (b : Addr) (b0 : Int32) (b1 : Int32) (b2 : Int32) (b3 : Int32) : entryFrame m #[(.ref b), (.int (3 : Int32)), (.int b0), (.int b1), (.int b2), (.int b3)] 6 = mkF m 0 #[.val (.ref b), .val (.int (3 : Int32)), .val (.int b0), .val (.int b1), .val (.int b2), .val (.int b3)] [] := by first | (simp [entryFrame, mkF, argsToLocals, Value.category]; done) | rfl
def Q_same3 (Z : State) (b : Addr) (kq : ClassId) (b0 : Int32) (b1 : Int32) (b2 : Int32) (b3 : Int32) (h0 : Heap) (v_ : Option Value) (h : Heap) (L_ : List Loc) : Prop := v_ = some (.int 1) ∧ Fr Z.heap.size L_ ∧ (h = h0)
set_option maxRecDepth 65536 in
set_option maxHeartbeats 40000000 in
theorem rm_same3 (l : Launch) (Z : State) (a0 : Array Value) (hw : ∀ d ∈ tables_1, d.before a0 Z = true) (ws : List Jvm.Cond) (b : Addr) (kq : ClassId) (b0 : Int32) (b1 : Int32) (b2 : Int32) (b3 : Int32) (h0 : Heap) (O : Ext Z.heap h0) (Ab : Arv Z h0 b kq .byte 3 [(.int (nar .byte (b0.toInt8.toInt32))), (.int (nar .byte (b1.toInt8.toInt32))), (.int (nar .byte (b2.toInt8.toInt32)))] (.int 0)) :
    MetFree l (⟨"com/example/trailcaster/trailcaster/model/ParticipantObjectQueryPinLaw", "same", "([BIIIII)Z"⟩ : MethodName) (head1 (Jvm.Cond.code (⟨"com/example/trailcaster/trailcaster/model/ParticipantObjectQueryPinLaw", "same", "([BIIIII)Z"⟩ : MethodName) method_6_code 6 (some .boolean) :: ws) ({ frames := 1, cells := 0, slots := 0, locals := 14 } : Room)) (fun a_ U_ => a_ = #[(.ref b), (.int (3 : Int32)), (.int b0), (.int b1), (.int b2), (.int b3)] ∧ Z.Warmed39 U_.vm ∧ U_.heap = h0) (fun _ _ _ _ _ => True) (fun _ U_ o_ U2_ => ∃ v_ L_, o_ = .returned v_ ∧ Q_same3 Z b kq b0 b1 b2 b3 h0 v_ U2_.heap L_ ∧ FrameEnd U_ o_ U2_ L_ ({ frames := 1, cells := 0, slots := 0, locals := 14 } : Room).cells ({ frames := 1, cells := 0, slots := 0, locals := 14 } : Room).slots) := by
  refine MetFree.of_bodySF (plainFor_of_name own_pn13) hisR ?_
  intro p e s m args below meth c s₁ Bd hml0 hP hK
  obtain ⟨rfl, hZ, hh⟩ := hP
  have hx := Bd.exec
  have hby := Bd.bytes
  have hml : c.maxLocals = 6 := hml0
  have hown : s.vm.findClass "com/example/trailcaster/trailcaster/model/ParticipantObjectQueryPinLaw" = some m.cls := findClass_of_methodNamed Bd.named
  have hnm := (name_of_methodNamed Bd.named Bd.method).1
  have X0 : Stand p l e ({ frames := 1, cells := 0, slots := 0, locals := 14 } : Room) s m #[(.ref b), (.int (3 : Int32)), (.int b0), (.int b1), (.int b2), (.int b3)] below meth c s₁ [] 0 0 := Stand.of_body Bd
  have e0 : s₁.heap = h0 := by rw [← hh, Bd.state]; rfl
  have N0 := Fr.nil Z.heap.size
  show own_G p e below (fun o_ s₂ => ∃ v_ L_, o_ = .returned v_ ∧ Q_same3 Z b kq b0 b1 b2 b3 h0 v_ s₂.heap L_ ∧ FrameEnd s o_ s₂ L_ ({ frames := 1, cells := 0, slots := 0, locals := 14 } : Room).cells ({ frames := 1, cells := 0, slots := 0, locals := 14 } : Room).slots) (s₁.setTop (entryFrame m #[(.ref b), (.int (3 : Int32)), (.int b0), (.int b1), (.int b2), (.int b3)] 6))
  refine own_go (s₁.setTop (mkF m 0 #[.val (.ref b), .val (.int (3 : Int32)), .val (.int b0), .val (.int b1), .val (.int b2), .val (.int b3)] [])) (fun t_ k_ => castTop (own_ef_same3 m b b0 b1 b2 b3) k_) ?_
  refine own_go (s₁.setTop (mkF m 1 #[.val (.ref b), .val (.int (3 : Int32)), .val (.int b0), .val (.int b1), .val (.int b2), .val (.int b3)] [(.ref b)])) (fun t_ k_ => XS.aloadN X0.here hx rfl (hb hby own_d_method_6_0) rfl rfl k_) ?_
  obtain ⟨cl1, Ar1, q1, Sz1, Nz1, Hz1, Gz1⟩ := id (Ab)
  refine own_go (s₁.setTop (mkF m 2 #[.val (.ref b), .val (.int (3 : Int32)), .val (.int b0), .val (.int b1), .val (.int b2), .val (.int b3)] [(.int (3 : Int32))])) (fun t_ k_ => X0.arraylength hx (by rw [e0]; exact Ar1.1) (State.isArrayOf_alike hZ.alike Ar1.2.1) (g := (mkF m 1 #[.val (.ref b), .val (.int (3 : Int32)), .val (.int b0), .val (.int b1), .val (.int b2), .val (.int b3)] [(.ref b)])) rfl rfl (hb hby own_d_method_6_1) _ (by rw [len_of Sz1 Nz1]; exact k_)) ?_
  refine own_go (s₁.setTop (mkF m 3 #[.val (.ref b), .val (.int (3 : Int32)), .val (.int b0), .val (.int b1), .val (.int b2), .val (.int b3)] [(.int (3 : Int32)), (.int (3 : Int32))])) (fun t_ k_ => XS.iloadN X0.here hx rfl (hb hby own_d_method_6_2) rfl k_) ?_
  refine own_go (s₁.setTop (mkF m 6 #[.val (.ref b), .val (.int (3 : Int32)), .val (.int b0), .val (.int b1), .val (.int b2), .val (.int b3)] [])) (fun t_ k_ => XS.icmpNo X0.here hx rfl (hb hby own_d_method_6_3) rfl (teq (by decide : (3 : Int32) = (3 : Int32))).2 k_) ?_
  refine own_go (s₁.setTop (mkF m 7 #[.val (.ref b), .val (.int (3 : Int32)), .val (.int b0), .val (.int b1), .val (.int b2), .val (.int b3)] [(.ref b)])) (fun t_ k_ => XS.aloadN X0.here hx rfl (hb hby own_d_method_6_6) rfl rfl k_) ?_
  refine own_go (s₁.setTop (mkF m 8 #[.val (.ref b), .val (.int (3 : Int32)), .val (.int b0), .val (.int b1), .val (.int b2), .val (.int b3)] [(.int (0 : Int32)), (.ref b)])) (fun t_ k_ => XS.iconst X0.here hx rfl (hb hby own_d_method_6_7) k_) ?_
  refine own_go (s₁.setTop (mkF m 9 #[.val (.ref b), .val (.int (3 : Int32)), .val (.int b0), .val (.int b1), .val (.int b2), .val (.int b3)] [(.int b0), (.int (0 : Int32)), (.ref b)])) (fun t_ k_ => XS.iloadN X0.here hx rfl (hb hby own_d_method_6_8) rfl k_) ?_
  obtain ⟨_, _, ⟨T2, Lu2, ku2, nu2⟩, -, X2, ⟨Lc2, hQ2, lu2, yu2, zu2⟩, st2⟩ := Jvm.LawKit.callS X0 hx (y := (⟨"com/example/trailcaster/trailcaster/model/ParticipantObjectQueryPinLaw", "at", "([BII)Z"⟩ : MethodName)) hown (mvT hZ (hw _ (List.mem_of_getElem? (i := 227) rfl))) (mvT hZ (hw _ (List.mem_of_getElem? (i := 228) rfl))) (mvT hZ (hw _ (List.mem_of_getElem? (i := 73) rfl))) (mvT hZ (hw _ (List.mem_of_getElem? (i := 229) rfl))) (by decide) (backOf (W := 0) (rm_ati l Z a0 hw [] (b) (kq) ((3 : Int32)) ([(.int (nar .byte (b0.toInt8.toInt32))), (.int (nar .byte (b1.toInt8.toInt32))), (.int (nar .byte (b2.toInt8.toInt32)))]) ((0 : Int32)) (0) (b0) ((nar .byte (b0.toInt8.toInt32))) h0 O Ab (by decide) (by decide) rfl rfl (own_nb b0)) hZ (hw _ (List.mem_of_getElem? (i := 229) rfl)) (hw _ (List.mem_of_getElem? (i := 73) rfl)) (by decide) (by decide)) (g := (mkF m 9 #[.val (.ref b), .val (.int (3 : Int32)), .val (.int b0), .val (.int b1), .val (.int b2), .val (.int b3)] [(.int b0), (.int (0 : Int32)), (.ref b)])) rfl (by rw [hml]; rfl) (argsL := [(.ref b), (.int (0 : Int32)), (.int b0)]) (rest := []) (lenOf own_pd12 rfl) rfl (by show 2 * 0 + _ ≤ _; exact Nat.le_of_eq rfl) (hb hby own_d_method_6_9) (fun _ _ => ⟨rfl, e0, (by decide : 0 + 0 ≤ _), (by decide : 0 + 0 ≤ _)⟩)
  dsimp only [Pt.U, Pt.locs, Pt.cells, Pt.slots] at X2 lu2 yu2 zu2 st2 hQ2
  subst lu2 yu2 zu2
  obtain ⟨rfl, N2q, e2⟩ := hQ2
  have N2 := Fr.app N0 N2q
  refine own_go (T2.setTop (mkF m 12 #[.val (.ref b), .val (.int (3 : Int32)), .val (.int b0), .val (.int b1), .val (.int b2), .val (.int b3)] [(.int (1 : Int32))])) (fun t_ k_ => st2 _ k_) ?_
  refine own_go (T2.setTop (mkF m 15 #[.val (.ref b), .val (.int (3 : Int32)), .val (.int b0), .val (.int b1), .val (.int b2), .val (.int b3)] [])) (fun t_ k_ => XS.ifNo X2.here hx rfl (hb hby own_d_method_6_12) rfl ((if0 _ _).trans (feq (by decide : ¬ ((1 : Int32) = (0 : Int32)))).1) k_) ?_
  refine own_go (T2.setTop (mkF m 16 #[.val (.ref b), .val (.int (3 : Int32)), .val (.int b0), .val (.int b1), .val (.int b2), .val (.int b3)] [(.ref b)])) (fun t_ k_ => XS.aloadN X2.here hx rfl (hb hby own_d_method_6_15) rfl rfl k_) ?_
  refine own_go (T2.setTop (mkF m 17 #[.val (.ref b), .val (.int (3 : Int32)), .val (.int b0), .val (.int b1), .val (.int b2), .val (.int b3)] [(.int (1 : Int32)), (.ref b)])) (fun t_ k_ => XS.iconst X2.here hx rfl (hb hby own_d_method_6_16) k_) ?_
  refine own_go (T2.setTop (mkF m 18 #[.val (.ref b), .val (.int (3 : Int32)), .val (.int b0), .val (.int b1), .val (.int b2), .val (.int b3)] [(.int b1), (.int (1 : Int32)), (.ref b)])) (fun t_ k_ => XS.iloadN X2.here hx rfl (hb hby own_d_method_6_17) rfl k_) ?_
  obtain ⟨_, _, ⟨T3, Lu3, ku3, nu3⟩, -, X3, ⟨Lc3, hQ3, lu3, yu3, zu3⟩, st3⟩ := Jvm.LawKit.callS X2 hx (y := (⟨"com/example/trailcaster/trailcaster/model/ParticipantObjectQueryPinLaw", "at", "([BII)Z"⟩ : MethodName)) hown (mvT hZ (hw _ (List.mem_of_getElem? (i := 227) rfl))) (mvT hZ (hw _ (List.mem_of_getElem? (i := 228) rfl))) (mvT hZ (hw _ (List.mem_of_getElem? (i := 73) rfl))) (mvT hZ (hw _ (List.mem_of_getElem? (i := 229) rfl))) (by decide) (backOf (W := 0) (rm_ati l Z a0 hw [] (b) (kq) ((3 : Int32)) ([(.int (nar .byte (b0.toInt8.toInt32))), (.int (nar .byte (b1.toInt8.toInt32))), (.int (nar .byte (b2.toInt8.toInt32)))]) ((1 : Int32)) (1) (b1) ((nar .byte (b1.toInt8.toInt32))) h0 O Ab (by decide) (by decide) rfl rfl (own_nb b1)) hZ (hw _ (List.mem_of_getElem? (i := 229) rfl)) (hw _ (List.mem_of_getElem? (i := 73) rfl)) (by decide) (by decide)) (g := (mkF m 18 #[.val (.ref b), .val (.int (3 : Int32)), .val (.int b0), .val (.int b1), .val (.int b2), .val (.int b3)] [(.int b1), (.int (1 : Int32)), (.ref b)])) rfl (by rw [hml]; rfl) (argsL := [(.ref b), (.int (1 : Int32)), (.int b1)]) (rest := []) (lenOf own_pd12 rfl) rfl (by show 2 * 0 + _ ≤ _; exact Nat.le_of_eq rfl) (hb hby own_d_method_6_18) (fun _ _ => ⟨rfl, e2, (by decide : 0 + 0 ≤ _), (by decide : 0 + 0 ≤ _)⟩)
  dsimp only [Pt.U, Pt.locs, Pt.cells, Pt.slots] at X3 lu3 yu3 zu3 st3 hQ3
  subst lu3 yu3 zu3
  obtain ⟨rfl, N3q, e3⟩ := hQ3
  have N3 := Fr.app N2 N3q
  refine own_go (T3.setTop (mkF m 21 #[.val (.ref b), .val (.int (3 : Int32)), .val (.int b0), .val (.int b1), .val (.int b2), .val (.int b3)] [(.int (1 : Int32))])) (fun t_ k_ => st3 _ k_) ?_
  refine own_go (T3.setTop (mkF m 24 #[.val (.ref b), .val (.int (3 : Int32)), .val (.int b0), .val (.int b1), .val (.int b2), .val (.int b3)] [])) (fun t_ k_ => XS.ifNo X3.here hx rfl (hb hby own_d_method_6_21) rfl ((if0 _ _).trans (feq (by decide : ¬ ((1 : Int32) = (0 : Int32)))).1) k_) ?_
  refine own_go (T3.setTop (mkF m 25 #[.val (.ref b), .val (.int (3 : Int32)), .val (.int b0), .val (.int b1), .val (.int b2), .val (.int b3)] [(.ref b)])) (fun t_ k_ => XS.aloadN X3.here hx rfl (hb hby own_d_method_6_24) rfl rfl k_) ?_
  refine own_go (T3.setTop (mkF m 26 #[.val (.ref b), .val (.int (3 : Int32)), .val (.int b0), .val (.int b1), .val (.int b2), .val (.int b3)] [(.int (2 : Int32)), (.ref b)])) (fun t_ k_ => XS.iconst X3.here hx rfl (hb hby own_d_method_6_25) k_) ?_
  refine own_go (T3.setTop (mkF m 28 #[.val (.ref b), .val (.int (3 : Int32)), .val (.int b0), .val (.int b1), .val (.int b2), .val (.int b3)] [(.int b2), (.int (2 : Int32)), (.ref b)])) (fun t_ k_ => XS.iload X3.here hx rfl (hb hby own_d_method_6_26) rfl k_) ?_
  obtain ⟨_, _, ⟨T4, Lu4, ku4, nu4⟩, -, X4, ⟨Lc4, hQ4, lu4, yu4, zu4⟩, st4⟩ := Jvm.LawKit.callS X3 hx (y := (⟨"com/example/trailcaster/trailcaster/model/ParticipantObjectQueryPinLaw", "at", "([BII)Z"⟩ : MethodName)) hown (mvT hZ (hw _ (List.mem_of_getElem? (i := 227) rfl))) (mvT hZ (hw _ (List.mem_of_getElem? (i := 228) rfl))) (mvT hZ (hw _ (List.mem_of_getElem? (i := 73) rfl))) (mvT hZ (hw _ (List.mem_of_getElem? (i := 229) rfl))) (by decide) (backOf (W := 0) (rm_ati l Z a0 hw [] (b) (kq) ((3 : Int32)) ([(.int (nar .byte (b0.toInt8.toInt32))), (.int (nar .byte (b1.toInt8.toInt32))), (.int (nar .byte (b2.toInt8.toInt32)))]) ((2 : Int32)) (2) (b2) ((nar .byte (b2.toInt8.toInt32))) h0 O Ab (by decide) (by decide) rfl rfl (own_nb b2)) hZ (hw _ (List.mem_of_getElem? (i := 229) rfl)) (hw _ (List.mem_of_getElem? (i := 73) rfl)) (by decide) (by decide)) (g := (mkF m 28 #[.val (.ref b), .val (.int (3 : Int32)), .val (.int b0), .val (.int b1), .val (.int b2), .val (.int b3)] [(.int b2), (.int (2 : Int32)), (.ref b)])) rfl (by rw [hml]; rfl) (argsL := [(.ref b), (.int (2 : Int32)), (.int b2)]) (rest := []) (lenOf own_pd12 rfl) rfl (by show 2 * 0 + _ ≤ _; exact Nat.le_of_eq rfl) (hb hby own_d_method_6_28) (fun _ _ => ⟨rfl, e3, (by decide : 0 + 0 ≤ _), (by decide : 0 + 0 ≤ _)⟩)
  dsimp only [Pt.U, Pt.locs, Pt.cells, Pt.slots] at X4 lu4 yu4 zu4 st4 hQ4
  subst lu4 yu4 zu4
  obtain ⟨rfl, N4q, e4⟩ := hQ4
  have N4 := Fr.app N3 N4q
  refine own_go (T4.setTop (mkF m 31 #[.val (.ref b), .val (.int (3 : Int32)), .val (.int b0), .val (.int b1), .val (.int b2), .val (.int b3)] [(.int (1 : Int32))])) (fun t_ k_ => st4 _ k_) ?_
  refine own_go (T4.setTop (mkF m 34 #[.val (.ref b), .val (.int (3 : Int32)), .val (.int b0), .val (.int b1), .val (.int b2), .val (.int b3)] [])) (fun t_ k_ => XS.ifNo X4.here hx rfl (hb hby own_d_method_6_31) rfl ((if0 _ _).trans (feq (by decide : ¬ ((1 : Int32) = (0 : Int32)))).1) k_) ?_
  refine own_go (T4.setTop (mkF m 35 #[.val (.ref b), .val (.int (3 : Int32)), .val (.int b0), .val (.int b1), .val (.int b2), .val (.int b3)] [(.ref b)])) (fun t_ k_ => XS.aloadN X4.here hx rfl (hb hby own_d_method_6_34) rfl rfl k_) ?_
  refine own_go (T4.setTop (mkF m 36 #[.val (.ref b), .val (.int (3 : Int32)), .val (.int b0), .val (.int b1), .val (.int b2), .val (.int b3)] [(.int (3 : Int32)), (.ref b)])) (fun t_ k_ => XS.iconst X4.here hx rfl (hb hby own_d_method_6_35) k_) ?_
  refine own_go (T4.setTop (mkF m 38 #[.val (.ref b), .val (.int (3 : Int32)), .val (.int b0), .val (.int b1), .val (.int b2), .val (.int b3)] [(.int b3), (.int (3 : Int32)), (.ref b)])) (fun t_ k_ => XS.iload X4.here hx rfl (hb hby own_d_method_6_36) rfl k_) ?_
  obtain ⟨_, _, ⟨T5, Lu5, ku5, nu5⟩, -, X5, ⟨Lc5, hQ5, lu5, yu5, zu5⟩, st5⟩ := Jvm.LawKit.callS X4 hx (y := (⟨"com/example/trailcaster/trailcaster/model/ParticipantObjectQueryPinLaw", "at", "([BII)Z"⟩ : MethodName)) hown (mvT hZ (hw _ (List.mem_of_getElem? (i := 227) rfl))) (mvT hZ (hw _ (List.mem_of_getElem? (i := 228) rfl))) (mvT hZ (hw _ (List.mem_of_getElem? (i := 73) rfl))) (mvT hZ (hw _ (List.mem_of_getElem? (i := 229) rfl))) (by decide) (backOf (W := 0) (rm_ato l Z a0 hw [] (b) (kq) ((3 : Int32)) ([(.int (nar .byte (b0.toInt8.toInt32))), (.int (nar .byte (b1.toInt8.toInt32))), (.int (nar .byte (b2.toInt8.toInt32)))]) ((3 : Int32)) (b3) h0 O Ab (by decide)) hZ (hw _ (List.mem_of_getElem? (i := 229) rfl)) (hw _ (List.mem_of_getElem? (i := 73) rfl)) (by decide) (by decide)) (g := (mkF m 38 #[.val (.ref b), .val (.int (3 : Int32)), .val (.int b0), .val (.int b1), .val (.int b2), .val (.int b3)] [(.int b3), (.int (3 : Int32)), (.ref b)])) rfl (by rw [hml]; rfl) (argsL := [(.ref b), (.int (3 : Int32)), (.int b3)]) (rest := []) (lenOf own_pd12 rfl) rfl (by show 2 * 0 + _ ≤ _; exact Nat.le_of_eq rfl) (hb hby own_d_method_6_38) (fun _ _ => ⟨rfl, e4, (by decide : 0 + 0 ≤ _), (by decide : 0 + 0 ≤ _)⟩)
  dsimp only [Pt.U, Pt.locs, Pt.cells, Pt.slots] at X5 lu5 yu5 zu5 st5 hQ5
  subst lu5 yu5 zu5
  obtain ⟨rfl, N5q, e5⟩ := hQ5
  have N5 := Fr.app N4 N5q
  refine own_go (T5.setTop (mkF m 41 #[.val (.ref b), .val (.int (3 : Int32)), .val (.int b0), .val (.int b1), .val (.int b2), .val (.int b3)] [(.int (1 : Int32))])) (fun t_ k_ => st5 _ k_) ?_
  refine own_go (T5.setTop (mkF m 44 #[.val (.ref b), .val (.int (3 : Int32)), .val (.int b0), .val (.int b1), .val (.int b2), .val (.int b3)] [])) (fun t_ k_ => XS.ifNo X5.here hx rfl (hb hby own_d_method_6_41) rfl ((if0 _ _).trans (feq (by decide : ¬ ((1 : Int32) = (0 : Int32)))).1) k_) ?_
  refine own_go (T5.setTop (mkF m 45 #[.val (.ref b), .val (.int (3 : Int32)), .val (.int b0), .val (.int b1), .val (.int b2), .val (.int b3)] [(.int (1 : Int32))])) (fun t_ k_ => XS.iconst X5.here hx rfl (hb hby own_d_method_6_44) k_) ?_
  refine own_go (T5.setTop (mkF m 49 #[.val (.ref b), .val (.int (3 : Int32)), .val (.int b0), .val (.int b1), .val (.int b2), .val (.int b3)] [(.int (1 : Int32))])) (fun t_ k_ => XS.goto X5.here hx rfl (pc0 := 45) (pc' := 49) rfl (hb hby own_d_method_6_45) (by decide) (by decide) k_) ?_
  obtain ⟨fs, hr, hrun, hended, hW, hsame⟩ := X5.leave (v := some (.int (nar .boolean (1 : Int32)))) (fun h => by rw [Bd.returns] at h; cases h)
  refine ⟨_, _, retN X5 hx (t := .boolean) Bd.returns (by simp) (hb hby own_d_method_6_49) hr, hrun, hended, _, _, rfl, ?_, ⟨_, rfl⟩, hW, hsame.mono (by decide) (by decide)⟩
  show Q_same3 Z b kq b0 b1 b2 b3 h0 _ T5.heap _
  exact ⟨rfl, N5, e5⟩
theorem own_ef_same4 (m : MethodId) (b : Addr) (b0 : Int32) (b1 : Int32) (b2 : Int32) (b3 : Int32) : entryFrame m #[(.ref b), (.int (4 : Int32)), (.int b0), (.int b1), (.int b2), (.int b3)] 6 = mkF m 0 #[.val (.ref b), .val (.int (4 : Int32)), .val (.int b0), .val (.int b1), .val (.int b2), .val (.int b3)] [] := by first | (simp [entryFrame, mkF, argsToLocals, Value.category]; done) | rfl
def Q_same4 (Z : State) (b : Addr) (kq : ClassId) (b0 : Int32) (b1 : Int32) (b2 : Int32) (b3 : Int32) (h0 : Heap) (v_ : Option Value) (h : Heap) (L_ : List Loc) : Prop := v_ = some (.int 1) ∧ Fr Z.heap.size L_ ∧ (h = h0)
set_option maxRecDepth 65536 in
set_option maxHeartbeats 40000000 in
theorem rm_same4 (l : Launch) (Z : State) (a0 : Array Value) (hw : ∀ d ∈ tables_1, d.before a0 Z = true) (ws : List Jvm.Cond) (b : Addr) (kq : ClassId) (b0 : Int32) (b1 : Int32) (b2 : Int32) (b3 : Int32) (h0 : Heap) (O : Ext Z.heap h0) (Ab : Arv Z h0 b kq .byte 4 [(.int (nar .byte (b0.toInt8.toInt32))), (.int (nar .byte (b1.toInt8.toInt32))), (.int (nar .byte (b2.toInt8.toInt32))), (.int (nar .byte (b3.toInt8.toInt32)))] (.int 0)) :
    MetFree l (⟨"com/example/trailcaster/trailcaster/model/ParticipantObjectQueryPinLaw", "same", "([BIIIII)Z"⟩ : MethodName) (head1 (Jvm.Cond.code (⟨"com/example/trailcaster/trailcaster/model/ParticipantObjectQueryPinLaw", "same", "([BIIIII)Z"⟩ : MethodName) method_6_code 6 (some .boolean) :: ws) ({ frames := 1, cells := 0, slots := 0, locals := 14 } : Room)) (fun a_ U_ => a_ = #[(.ref b), (.int (4 : Int32)), (.int b0), (.int b1), (.int b2), (.int b3)] ∧ Z.Warmed39 U_.vm ∧ U_.heap = h0) (fun _ _ _ _ _ => True) (fun _ U_ o_ U2_ => ∃ v_ L_, o_ = .returned v_ ∧ Q_same4 Z b kq b0 b1 b2 b3 h0 v_ U2_.heap L_ ∧ FrameEnd U_ o_ U2_ L_ ({ frames := 1, cells := 0, slots := 0, locals := 14 } : Room).cells ({ frames := 1, cells := 0, slots := 0, locals := 14 } : Room).slots) := by
  refine MetFree.of_bodySF (plainFor_of_name own_pn13) hisR ?_
  intro p e s m args below meth c s₁ Bd hml0 hP hK
  obtain ⟨rfl, hZ, hh⟩ := hP
  have hx := Bd.exec
  have hby := Bd.bytes
  have hml : c.maxLocals = 6 := hml0
  have hown : s.vm.findClass "com/example/trailcaster/trailcaster/model/ParticipantObjectQueryPinLaw" = some m.cls := findClass_of_methodNamed Bd.named
  have hnm := (name_of_methodNamed Bd.named Bd.method).1
  have X0 : Stand p l e ({ frames := 1, cells := 0, slots := 0, locals := 14 } : Room) s m #[(.ref b), (.int (4 : Int32)), (.int b0), (.int b1), (.int b2), (.int b3)] below meth c s₁ [] 0 0 := Stand.of_body Bd
  have e0 : s₁.heap = h0 := by rw [← hh, Bd.state]; rfl
  have N0 := Fr.nil Z.heap.size
  show own_G p e below (fun o_ s₂ => ∃ v_ L_, o_ = .returned v_ ∧ Q_same4 Z b kq b0 b1 b2 b3 h0 v_ s₂.heap L_ ∧ FrameEnd s o_ s₂ L_ ({ frames := 1, cells := 0, slots := 0, locals := 14 } : Room).cells ({ frames := 1, cells := 0, slots := 0, locals := 14 } : Room).slots) (s₁.setTop (entryFrame m #[(.ref b), (.int (4 : Int32)), (.int b0), (.int b1), (.int b2), (.int b3)] 6))
  refine own_go (s₁.setTop (mkF m 0 #[.val (.ref b), .val (.int (4 : Int32)), .val (.int b0), .val (.int b1), .val (.int b2), .val (.int b3)] [])) (fun t_ k_ => castTop (own_ef_same4 m b b0 b1 b2 b3) k_) ?_
  refine own_go (s₁.setTop (mkF m 1 #[.val (.ref b), .val (.int (4 : Int32)), .val (.int b0), .val (.int b1), .val (.int b2), .val (.int b3)] [(.ref b)])) (fun t_ k_ => XS.aloadN X0.here hx rfl (hb hby own_d_method_6_0) rfl rfl k_) ?_
  obtain ⟨cl1, Ar1, q1, Sz1, Nz1, Hz1, Gz1⟩ := id (Ab)
  refine own_go (s₁.setTop (mkF m 2 #[.val (.ref b), .val (.int (4 : Int32)), .val (.int b0), .val (.int b1), .val (.int b2), .val (.int b3)] [(.int (4 : Int32))])) (fun t_ k_ => X0.arraylength hx (by rw [e0]; exact Ar1.1) (State.isArrayOf_alike hZ.alike Ar1.2.1) (g := (mkF m 1 #[.val (.ref b), .val (.int (4 : Int32)), .val (.int b0), .val (.int b1), .val (.int b2), .val (.int b3)] [(.ref b)])) rfl rfl (hb hby own_d_method_6_1) _ (by rw [len_of Sz1 Nz1]; exact k_)) ?_
  refine own_go (s₁.setTop (mkF m 3 #[.val (.ref b), .val (.int (4 : Int32)), .val (.int b0), .val (.int b1), .val (.int b2), .val (.int b3)] [(.int (4 : Int32)), (.int (4 : Int32))])) (fun t_ k_ => XS.iloadN X0.here hx rfl (hb hby own_d_method_6_2) rfl k_) ?_
  refine own_go (s₁.setTop (mkF m 6 #[.val (.ref b), .val (.int (4 : Int32)), .val (.int b0), .val (.int b1), .val (.int b2), .val (.int b3)] [])) (fun t_ k_ => XS.icmpNo X0.here hx rfl (hb hby own_d_method_6_3) rfl (teq (by decide : (4 : Int32) = (4 : Int32))).2 k_) ?_
  refine own_go (s₁.setTop (mkF m 7 #[.val (.ref b), .val (.int (4 : Int32)), .val (.int b0), .val (.int b1), .val (.int b2), .val (.int b3)] [(.ref b)])) (fun t_ k_ => XS.aloadN X0.here hx rfl (hb hby own_d_method_6_6) rfl rfl k_) ?_
  refine own_go (s₁.setTop (mkF m 8 #[.val (.ref b), .val (.int (4 : Int32)), .val (.int b0), .val (.int b1), .val (.int b2), .val (.int b3)] [(.int (0 : Int32)), (.ref b)])) (fun t_ k_ => XS.iconst X0.here hx rfl (hb hby own_d_method_6_7) k_) ?_
  refine own_go (s₁.setTop (mkF m 9 #[.val (.ref b), .val (.int (4 : Int32)), .val (.int b0), .val (.int b1), .val (.int b2), .val (.int b3)] [(.int b0), (.int (0 : Int32)), (.ref b)])) (fun t_ k_ => XS.iloadN X0.here hx rfl (hb hby own_d_method_6_8) rfl k_) ?_
  obtain ⟨_, _, ⟨T2, Lu2, ku2, nu2⟩, -, X2, ⟨Lc2, hQ2, lu2, yu2, zu2⟩, st2⟩ := Jvm.LawKit.callS X0 hx (y := (⟨"com/example/trailcaster/trailcaster/model/ParticipantObjectQueryPinLaw", "at", "([BII)Z"⟩ : MethodName)) hown (mvT hZ (hw _ (List.mem_of_getElem? (i := 227) rfl))) (mvT hZ (hw _ (List.mem_of_getElem? (i := 228) rfl))) (mvT hZ (hw _ (List.mem_of_getElem? (i := 73) rfl))) (mvT hZ (hw _ (List.mem_of_getElem? (i := 229) rfl))) (by decide) (backOf (W := 0) (rm_ati l Z a0 hw [] (b) (kq) ((4 : Int32)) ([(.int (nar .byte (b0.toInt8.toInt32))), (.int (nar .byte (b1.toInt8.toInt32))), (.int (nar .byte (b2.toInt8.toInt32))), (.int (nar .byte (b3.toInt8.toInt32)))]) ((0 : Int32)) (0) (b0) ((nar .byte (b0.toInt8.toInt32))) h0 O Ab (by decide) (by decide) rfl rfl (own_nb b0)) hZ (hw _ (List.mem_of_getElem? (i := 229) rfl)) (hw _ (List.mem_of_getElem? (i := 73) rfl)) (by decide) (by decide)) (g := (mkF m 9 #[.val (.ref b), .val (.int (4 : Int32)), .val (.int b0), .val (.int b1), .val (.int b2), .val (.int b3)] [(.int b0), (.int (0 : Int32)), (.ref b)])) rfl (by rw [hml]; rfl) (argsL := [(.ref b), (.int (0 : Int32)), (.int b0)]) (rest := []) (lenOf own_pd12 rfl) rfl (by show 2 * 0 + _ ≤ _; exact Nat.le_of_eq rfl) (hb hby own_d_method_6_9) (fun _ _ => ⟨rfl, e0, (by decide : 0 + 0 ≤ _), (by decide : 0 + 0 ≤ _)⟩)
  dsimp only [Pt.U, Pt.locs, Pt.cells, Pt.slots] at X2 lu2 yu2 zu2 st2 hQ2
  subst lu2 yu2 zu2
  obtain ⟨rfl, N2q, e2⟩ := hQ2
  have N2 := Fr.app N0 N2q
  refine own_go (T2.setTop (mkF m 12 #[.val (.ref b), .val (.int (4 : Int32)), .val (.int b0), .val (.int b1), .val (.int b2), .val (.int b3)] [(.int (1 : Int32))])) (fun t_ k_ => st2 _ k_) ?_
  refine own_go (T2.setTop (mkF m 15 #[.val (.ref b), .val (.int (4 : Int32)), .val (.int b0), .val (.int b1), .val (.int b2), .val (.int b3)] [])) (fun t_ k_ => XS.ifNo X2.here hx rfl (hb hby own_d_method_6_12) rfl ((if0 _ _).trans (feq (by decide : ¬ ((1 : Int32) = (0 : Int32)))).1) k_) ?_
  refine own_go (T2.setTop (mkF m 16 #[.val (.ref b), .val (.int (4 : Int32)), .val (.int b0), .val (.int b1), .val (.int b2), .val (.int b3)] [(.ref b)])) (fun t_ k_ => XS.aloadN X2.here hx rfl (hb hby own_d_method_6_15) rfl rfl k_) ?_
  refine own_go (T2.setTop (mkF m 17 #[.val (.ref b), .val (.int (4 : Int32)), .val (.int b0), .val (.int b1), .val (.int b2), .val (.int b3)] [(.int (1 : Int32)), (.ref b)])) (fun t_ k_ => XS.iconst X2.here hx rfl (hb hby own_d_method_6_16) k_) ?_
  refine own_go (T2.setTop (mkF m 18 #[.val (.ref b), .val (.int (4 : Int32)), .val (.int b0), .val (.int b1), .val (.int b2), .val (.int b3)] [(.int b1), (.int (1 : Int32)), (.ref b)])) (fun t_ k_ => XS.iloadN X2.here hx rfl (hb hby own_d_method_6_17) rfl k_) ?_
  obtain ⟨_, _, ⟨T3, Lu3, ku3, nu3⟩, -, X3, ⟨Lc3, hQ3, lu3, yu3, zu3⟩, st3⟩ := Jvm.LawKit.callS X2 hx (y := (⟨"com/example/trailcaster/trailcaster/model/ParticipantObjectQueryPinLaw", "at", "([BII)Z"⟩ : MethodName)) hown (mvT hZ (hw _ (List.mem_of_getElem? (i := 227) rfl))) (mvT hZ (hw _ (List.mem_of_getElem? (i := 228) rfl))) (mvT hZ (hw _ (List.mem_of_getElem? (i := 73) rfl))) (mvT hZ (hw _ (List.mem_of_getElem? (i := 229) rfl))) (by decide) (backOf (W := 0) (rm_ati l Z a0 hw [] (b) (kq) ((4 : Int32)) ([(.int (nar .byte (b0.toInt8.toInt32))), (.int (nar .byte (b1.toInt8.toInt32))), (.int (nar .byte (b2.toInt8.toInt32))), (.int (nar .byte (b3.toInt8.toInt32)))]) ((1 : Int32)) (1) (b1) ((nar .byte (b1.toInt8.toInt32))) h0 O Ab (by decide) (by decide) rfl rfl (own_nb b1)) hZ (hw _ (List.mem_of_getElem? (i := 229) rfl)) (hw _ (List.mem_of_getElem? (i := 73) rfl)) (by decide) (by decide)) (g := (mkF m 18 #[.val (.ref b), .val (.int (4 : Int32)), .val (.int b0), .val (.int b1), .val (.int b2), .val (.int b3)] [(.int b1), (.int (1 : Int32)), (.ref b)])) rfl (by rw [hml]; rfl) (argsL := [(.ref b), (.int (1 : Int32)), (.int b1)]) (rest := []) (lenOf own_pd12 rfl) rfl (by show 2 * 0 + _ ≤ _; exact Nat.le_of_eq rfl) (hb hby own_d_method_6_18) (fun _ _ => ⟨rfl, e2, (by decide : 0 + 0 ≤ _), (by decide : 0 + 0 ≤ _)⟩)
  dsimp only [Pt.U, Pt.locs, Pt.cells, Pt.slots] at X3 lu3 yu3 zu3 st3 hQ3
  subst lu3 yu3 zu3
  obtain ⟨rfl, N3q, e3⟩ := hQ3
  have N3 := Fr.app N2 N3q
  refine own_go (T3.setTop (mkF m 21 #[.val (.ref b), .val (.int (4 : Int32)), .val (.int b0), .val (.int b1), .val (.int b2), .val (.int b3)] [(.int (1 : Int32))])) (fun t_ k_ => st3 _ k_) ?_
  refine own_go (T3.setTop (mkF m 24 #[.val (.ref b), .val (.int (4 : Int32)), .val (.int b0), .val (.int b1), .val (.int b2), .val (.int b3)] [])) (fun t_ k_ => XS.ifNo X3.here hx rfl (hb hby own_d_method_6_21) rfl ((if0 _ _).trans (feq (by decide : ¬ ((1 : Int32) = (0 : Int32)))).1) k_) ?_
  refine own_go (T3.setTop (mkF m 25 #[.val (.ref b), .val (.int (4 : Int32)), .val (.int b0), .val (.int b1), .val (.int b2), .val (.int b3)] [(.ref b)])) (fun t_ k_ => XS.aloadN X3.here hx rfl (hb hby own_d_method_6_24) rfl rfl k_) ?_
  refine own_go (T3.setTop (mkF m 26 #[.val (.ref b), .val (.int (4 : Int32)), .val (.int b0), .val (.int b1), .val (.int b2), .val (.int b3)] [(.int (2 : Int32)), (.ref b)])) (fun t_ k_ => XS.iconst X3.here hx rfl (hb hby own_d_method_6_25) k_) ?_
  refine own_go (T3.setTop (mkF m 28 #[.val (.ref b), .val (.int (4 : Int32)), .val (.int b0), .val (.int b1), .val (.int b2), .val (.int b3)] [(.int b2), (.int (2 : Int32)), (.ref b)])) (fun t_ k_ => XS.iload X3.here hx rfl (hb hby own_d_method_6_26) rfl k_) ?_
  obtain ⟨_, _, ⟨T4, Lu4, ku4, nu4⟩, -, X4, ⟨Lc4, hQ4, lu4, yu4, zu4⟩, st4⟩ := Jvm.LawKit.callS X3 hx (y := (⟨"com/example/trailcaster/trailcaster/model/ParticipantObjectQueryPinLaw", "at", "([BII)Z"⟩ : MethodName)) hown (mvT hZ (hw _ (List.mem_of_getElem? (i := 227) rfl))) (mvT hZ (hw _ (List.mem_of_getElem? (i := 228) rfl))) (mvT hZ (hw _ (List.mem_of_getElem? (i := 73) rfl))) (mvT hZ (hw _ (List.mem_of_getElem? (i := 229) rfl))) (by decide) (backOf (W := 0) (rm_ati l Z a0 hw [] (b) (kq) ((4 : Int32)) ([(.int (nar .byte (b0.toInt8.toInt32))), (.int (nar .byte (b1.toInt8.toInt32))), (.int (nar .byte (b2.toInt8.toInt32))), (.int (nar .byte (b3.toInt8.toInt32)))]) ((2 : Int32)) (2) (b2) ((nar .byte (b2.toInt8.toInt32))) h0 O Ab (by decide) (by decide) rfl rfl (own_nb b2)) hZ (hw _ (List.mem_of_getElem? (i := 229) rfl)) (hw _ (List.mem_of_getElem? (i := 73) rfl)) (by decide) (by decide)) (g := (mkF m 28 #[.val (.ref b), .val (.int (4 : Int32)), .val (.int b0), .val (.int b1), .val (.int b2), .val (.int b3)] [(.int b2), (.int (2 : Int32)), (.ref b)])) rfl (by rw [hml]; rfl) (argsL := [(.ref b), (.int (2 : Int32)), (.int b2)]) (rest := []) (lenOf own_pd12 rfl) rfl (by show 2 * 0 + _ ≤ _; exact Nat.le_of_eq rfl) (hb hby own_d_method_6_28) (fun _ _ => ⟨rfl, e3, (by decide : 0 + 0 ≤ _), (by decide : 0 + 0 ≤ _)⟩)
  dsimp only [Pt.U, Pt.locs, Pt.cells, Pt.slots] at X4 lu4 yu4 zu4 st4 hQ4
  subst lu4 yu4 zu4
  obtain ⟨rfl, N4q, e4⟩ := hQ4
  have N4 := Fr.app N3 N4q
  refine own_go (T4.setTop (mkF m 31 #[.val (.ref b), .val (.int (4 : Int32)), .val (.int b0), .val (.int b1), .val (.int b2), .val (.int b3)] [(.int (1 : Int32))])) (fun t_ k_ => st4 _ k_) ?_
  refine own_go (T4.setTop (mkF m 34 #[.val (.ref b), .val (.int (4 : Int32)), .val (.int b0), .val (.int b1), .val (.int b2), .val (.int b3)] [])) (fun t_ k_ => XS.ifNo X4.here hx rfl (hb hby own_d_method_6_31) rfl ((if0 _ _).trans (feq (by decide : ¬ ((1 : Int32) = (0 : Int32)))).1) k_) ?_
  refine own_go (T4.setTop (mkF m 35 #[.val (.ref b), .val (.int (4 : Int32)), .val (.int b0), .val (.int b1), .val (.int b2), .val (.int b3)] [(.ref b)])) (fun t_ k_ => XS.aloadN X4.here hx rfl (hb hby own_d_method_6_34) rfl rfl k_) ?_
  refine own_go (T4.setTop (mkF m 36 #[.val (.ref b), .val (.int (4 : Int32)), .val (.int b0), .val (.int b1), .val (.int b2), .val (.int b3)] [(.int (3 : Int32)), (.ref b)])) (fun t_ k_ => XS.iconst X4.here hx rfl (hb hby own_d_method_6_35) k_) ?_
  refine own_go (T4.setTop (mkF m 38 #[.val (.ref b), .val (.int (4 : Int32)), .val (.int b0), .val (.int b1), .val (.int b2), .val (.int b3)] [(.int b3), (.int (3 : Int32)), (.ref b)])) (fun t_ k_ => XS.iload X4.here hx rfl (hb hby own_d_method_6_36) rfl k_) ?_
  obtain ⟨_, _, ⟨T5, Lu5, ku5, nu5⟩, -, X5, ⟨Lc5, hQ5, lu5, yu5, zu5⟩, st5⟩ := Jvm.LawKit.callS X4 hx (y := (⟨"com/example/trailcaster/trailcaster/model/ParticipantObjectQueryPinLaw", "at", "([BII)Z"⟩ : MethodName)) hown (mvT hZ (hw _ (List.mem_of_getElem? (i := 227) rfl))) (mvT hZ (hw _ (List.mem_of_getElem? (i := 228) rfl))) (mvT hZ (hw _ (List.mem_of_getElem? (i := 73) rfl))) (mvT hZ (hw _ (List.mem_of_getElem? (i := 229) rfl))) (by decide) (backOf (W := 0) (rm_ati l Z a0 hw [] (b) (kq) ((4 : Int32)) ([(.int (nar .byte (b0.toInt8.toInt32))), (.int (nar .byte (b1.toInt8.toInt32))), (.int (nar .byte (b2.toInt8.toInt32))), (.int (nar .byte (b3.toInt8.toInt32)))]) ((3 : Int32)) (3) (b3) ((nar .byte (b3.toInt8.toInt32))) h0 O Ab (by decide) (by decide) rfl rfl (own_nb b3)) hZ (hw _ (List.mem_of_getElem? (i := 229) rfl)) (hw _ (List.mem_of_getElem? (i := 73) rfl)) (by decide) (by decide)) (g := (mkF m 38 #[.val (.ref b), .val (.int (4 : Int32)), .val (.int b0), .val (.int b1), .val (.int b2), .val (.int b3)] [(.int b3), (.int (3 : Int32)), (.ref b)])) rfl (by rw [hml]; rfl) (argsL := [(.ref b), (.int (3 : Int32)), (.int b3)]) (rest := []) (lenOf own_pd12 rfl) rfl (by show 2 * 0 + _ ≤ _; exact Nat.le_of_eq rfl) (hb hby own_d_method_6_38) (fun _ _ => ⟨rfl, e4, (by decide : 0 + 0 ≤ _), (by decide : 0 + 0 ≤ _)⟩)
  dsimp only [Pt.U, Pt.locs, Pt.cells, Pt.slots] at X5 lu5 yu5 zu5 st5 hQ5
  subst lu5 yu5 zu5
  obtain ⟨rfl, N5q, e5⟩ := hQ5
  have N5 := Fr.app N4 N5q
  refine own_go (T5.setTop (mkF m 41 #[.val (.ref b), .val (.int (4 : Int32)), .val (.int b0), .val (.int b1), .val (.int b2), .val (.int b3)] [(.int (1 : Int32))])) (fun t_ k_ => st5 _ k_) ?_
  refine own_go (T5.setTop (mkF m 44 #[.val (.ref b), .val (.int (4 : Int32)), .val (.int b0), .val (.int b1), .val (.int b2), .val (.int b3)] [])) (fun t_ k_ => XS.ifNo X5.here hx rfl (hb hby own_d_method_6_41) rfl ((if0 _ _).trans (feq (by decide : ¬ ((1 : Int32) = (0 : Int32)))).1) k_) ?_
  refine own_go (T5.setTop (mkF m 45 #[.val (.ref b), .val (.int (4 : Int32)), .val (.int b0), .val (.int b1), .val (.int b2), .val (.int b3)] [(.int (1 : Int32))])) (fun t_ k_ => XS.iconst X5.here hx rfl (hb hby own_d_method_6_44) k_) ?_
  refine own_go (T5.setTop (mkF m 49 #[.val (.ref b), .val (.int (4 : Int32)), .val (.int b0), .val (.int b1), .val (.int b2), .val (.int b3)] [(.int (1 : Int32))])) (fun t_ k_ => XS.goto X5.here hx rfl (pc0 := 45) (pc' := 49) rfl (hb hby own_d_method_6_45) (by decide) (by decide) k_) ?_
  obtain ⟨fs, hr, hrun, hended, hW, hsame⟩ := X5.leave (v := some (.int (nar .boolean (1 : Int32)))) (fun h => by rw [Bd.returns] at h; cases h)
  refine ⟨_, _, retN X5 hx (t := .boolean) Bd.returns (by simp) (hb hby own_d_method_6_49) hr, hrun, hended, _, _, rfl, ?_, ⟨_, rfl⟩, hW, hsame.mono (by decide) (by decide)⟩
  show Q_same4 Z b kq b0 b1 b2 b3 h0 _ T5.heap _
  exact ⟨rfl, N5, e5⟩
theorem own_pn14 : plainName "java/lang/StringLatin1" = true := by first | (simp [plainName, overriddenIn]; done) | decide +kernel
theorem own_ef_ce (m : MethodId) (v : Int32) : entryFrame m #[(.int v)] 1 = mkF m 0 #[.val (.int v)] [] := by first | (simp [entryFrame, mkF, argsToLocals, Value.category]; done) | rfl
theorem own_d_jdk_43_method_3_0 : decode jdk_43_method_3_code 0 = .ok (.iload_n 0, 1) := by decide +kernel
theorem own_d_jdk_43_method_3_1 : decode jdk_43_method_3_code 1 = .ok (.sipush 255, 3) := by decide +kernel
theorem own_d_jdk_43_method_3_4 : decode jdk_43_method_3_code 4 = .ok (.if_icmp .gt 7, 3) := by decide +kernel
theorem own_d_jdk_43_method_3_7 : decode jdk_43_method_3_code 7 = .ok (.iconst 1, 1) := by decide +kernel
theorem own_d_jdk_43_method_3_8 : decode jdk_43_method_3_code 8 = .ok (.goto 4, 3) := by decide +kernel
theorem own_d_jdk_43_method_3_12 : decode jdk_43_method_3_code 12 = .ok (.ireturn, 1) := by decide +kernel
def Q_ce (Z : State) (v : Int32) (h0 : Heap) (v_ : Option Value) (h : Heap) (L_ : List Loc) : Prop := v_ = some (.int 1) ∧ Fr Z.heap.size L_ ∧ (h = h0)
set_option maxRecDepth 65536 in
set_option maxHeartbeats 40000000 in
theorem rm_ce (l : Launch) (Z : State) (a0 : Array Value) (hw : ∀ d ∈ tables_1, d.before a0 Z = true) (ws : List Jvm.Cond) (v : Int32) (h0 : Heap) (O : Ext Z.heap h0) (hv : ¬ (255 : Int32) < v) :
    MetFree l (⟨"java/lang/StringLatin1", "canEncode", "(C)Z"⟩ : MethodName) (head1 (Jvm.Cond.code (⟨"java/lang/StringLatin1", "canEncode", "(C)Z"⟩ : MethodName) jdk_43_method_3_code 1 (some .boolean) :: ws) ({ frames := 0, cells := 0, slots := 0, locals := 0 } : Room)) (fun a_ U_ => a_ = #[(.int v)] ∧ Z.Warmed39 U_.vm ∧ U_.heap = h0) (fun _ _ _ _ _ => True) (fun _ U_ o_ U2_ => ∃ v_ L_, o_ = .returned v_ ∧ Q_ce Z v h0 v_ U2_.heap L_ ∧ FrameEnd U_ o_ U2_ L_ ({ frames := 0, cells := 0, slots := 0, locals := 0 } : Room).cells ({ frames := 0, cells := 0, slots := 0, locals := 0 } : Room).slots) := by
  refine MetFree.of_bodySF (plainFor_of_name own_pn14) hisR ?_
  intro p e s m args below meth c s₁ Bd hml0 hP hK
  obtain ⟨rfl, hZ, hh⟩ := hP
  have hx := Bd.exec
  have hby := Bd.bytes
  have hml : c.maxLocals = 1 := hml0
  have hown : s.vm.findClass "java/lang/StringLatin1" = some m.cls := findClass_of_methodNamed Bd.named
  have hnm := (name_of_methodNamed Bd.named Bd.method).1
  have X0 : Stand p l e ({ frames := 0, cells := 0, slots := 0, locals := 0 } : Room) s m #[(.int v)] below meth c s₁ [] 0 0 := Stand.of_body Bd
  have e0 : s₁.heap = h0 := by rw [← hh, Bd.state]; rfl
  have N0 := Fr.nil Z.heap.size
  show own_G p e below (fun o_ s₂ => ∃ v_ L_, o_ = .returned v_ ∧ Q_ce Z v h0 v_ s₂.heap L_ ∧ FrameEnd s o_ s₂ L_ ({ frames := 0, cells := 0, slots := 0, locals := 0 } : Room).cells ({ frames := 0, cells := 0, slots := 0, locals := 0 } : Room).slots) (s₁.setTop (entryFrame m #[(.int v)] 1))
  refine own_go (s₁.setTop (mkF m 0 #[.val (.int v)] [])) (fun t_ k_ => castTop (own_ef_ce m v) k_) ?_
  refine own_go (s₁.setTop (mkF m 1 #[.val (.int v)] [(.int v)])) (fun t_ k_ => XS.iloadN X0.here hx rfl (hb hby own_d_jdk_43_method_3_0) rfl k_) ?_
  refine own_go (s₁.setTop (mkF m 4 #[.val (.int v)] [(.int (255 : Int32)), (.int v)])) (fun t_ k_ => XS.sipush X0.here hx rfl (hb hby own_d_jdk_43_method_3_1) k_) ?_
  refine own_go (s₁.setTop (mkF m 7 #[.val (.int v)] [])) (fun t_ k_ => XS.icmpNo X0.here hx rfl (hb hby own_d_jdk_43_method_3_4) rfl (flt hv).2.2.1 k_) ?_
  refine own_go (s₁.setTop (mkF m 8 #[.val (.int v)] [(.int (1 : Int32))])) (fun t_ k_ => XS.iconst X0.here hx rfl (hb hby own_d_jdk_43_method_3_7) k_) ?_
  refine own_go (s₁.setTop (mkF m 12 #[.val (.int v)] [(.int (1 : Int32))])) (fun t_ k_ => XS.goto X0.here hx rfl (pc0 := 8) (pc' := 12) rfl (hb hby own_d_jdk_43_method_3_8) (by decide) (by decide) k_) ?_
  obtain ⟨fs, hr, hrun, hended, hW, hsame⟩ := X0.leave (v := some (.int (nar .boolean (1 : Int32)))) (fun h => by rw [Bd.returns] at h; cases h)
  refine ⟨_, _, retN X0 hx (t := .boolean) Bd.returns (by simp) (hb hby own_d_jdk_43_method_3_12) hr, hrun, hended, _, _, rfl, ?_, ⟨_, rfl⟩, hW, hsame.mono (by decide) (by decide)⟩
  show Q_ce Z v h0 _ s₁.heap _
  exact ⟨rfl, N0, e0⟩
theorem own_ef_tb (m : MethodId) (v : Int32) : entryFrame m #[(.int v)] 1 = mkF m 0 #[.val (.int v)] [] := by first | (simp [entryFrame, mkF, argsToLocals, Value.category]; done) | rfl
theorem own_d_jdk_43_method_46_0 : decode jdk_43_method_46_code 0 = .ok (.iconst 1, 1) := by decide +kernel
theorem own_d_jdk_43_method_46_1 : decode jdk_43_method_46_code 1 = .ok (.newarray .byte, 2) := by decide +kernel
theorem own_d_jdk_43_method_46_3 : decode jdk_43_method_46_code 3 = .ok (.dup, 1) := by decide +kernel
theorem own_d_jdk_43_method_46_4 : decode jdk_43_method_46_code 4 = .ok (.iconst 0, 1) := by decide +kernel
theorem own_d_jdk_43_method_46_5 : decode jdk_43_method_46_code 5 = .ok (.iload_n 0, 1) := by decide +kernel
theorem own_d_jdk_43_method_46_6 : decode jdk_43_method_46_code 6 = .ok (.i2b, 1) := by decide +kernel
theorem own_d_jdk_43_method_46_7 : decode jdk_43_method_46_code 7 = .ok (.bastore, 1) := by decide +kernel
theorem own_d_jdk_43_method_46_8 : decode jdk_43_method_46_code 8 = .ok (.areturn, 1) := by decide +kernel
def Q_tb (Z : State) (v : Int32) (h0 : Heap) (v_ : Option Value) (h : Heap) (L_ : List Loc) : Prop := ∃ (r : Addr), v_ = some (.ref r) ∧ Fr Z.heap.size L_ ∧ (Keep h0 h [])
set_option maxRecDepth 65536 in
set_option maxHeartbeats 40000000 in
theorem rm_tb (l : Launch) (Z : State) (a0 : Array Value) (hw : ∀ d ∈ tables_1, d.before a0 Z = true) (ws : List Jvm.Cond) (v : Int32) (h0 : Heap) (O : Ext Z.heap h0) :
    MetFree l (⟨"java/lang/StringLatin1", "toBytes", "(C)[B"⟩ : MethodName) (head1 (Jvm.Cond.code (⟨"java/lang/StringLatin1", "toBytes", "(C)[B"⟩ : MethodName) jdk_43_method_46_code 1 (some (.array .byte)) :: ws) ({ frames := 0, cells := 1, slots := 1, locals := 0 } : Room)) (fun a_ U_ => a_ = #[(.int v)] ∧ Z.Warmed39 U_.vm ∧ U_.heap = h0) (fun _ _ _ _ _ => True) (fun _ U_ o_ U2_ => ∃ v_ L_, o_ = .returned v_ ∧ Q_tb Z v h0 v_ U2_.heap L_ ∧ FrameEnd U_ o_ U2_ L_ ({ frames := 0, cells := 1, slots := 1, locals := 0 } : Room).cells ({ frames := 0, cells := 1, slots := 1, locals := 0 } : Room).slots) := by
  refine MetFree.of_bodySF (plainFor_of_name own_pn14) hisR ?_
  intro p e s m args below meth c s₁ Bd hml0 hP hK
  obtain ⟨rfl, hZ, hh⟩ := hP
  have hx := Bd.exec
  have hby := Bd.bytes
  have hml : c.maxLocals = 1 := hml0
  have hown : s.vm.findClass "java/lang/StringLatin1" = some m.cls := findClass_of_methodNamed Bd.named
  have hnm := (name_of_methodNamed Bd.named Bd.method).1
  have X0 : Stand p l e ({ frames := 0, cells := 1, slots := 1, locals := 0 } : Room) s m #[(.int v)] below meth c s₁ [] 0 0 := Stand.of_body Bd
  have e0 : s₁.heap = h0 := by rw [← hh, Bd.state]; rfl
  have N0 := Fr.nil Z.heap.size
  show own_G p e below (fun o_ s₂ => ∃ v_ L_, o_ = .returned v_ ∧ Q_tb Z v h0 v_ s₂.heap L_ ∧ FrameEnd s o_ s₂ L_ ({ frames := 0, cells := 1, slots := 1, locals := 0 } : Room).cells ({ frames := 0, cells := 1, slots := 1, locals := 0 } : Room).slots) (s₁.setTop (entryFrame m #[(.int v)] 1))
  refine own_go (s₁.setTop (mkF m 0 #[.val (.int v)] [])) (fun t_ k_ => castTop (own_ef_tb m v) k_) ?_
  refine own_go (s₁.setTop (mkF m 1 #[.val (.int v)] [(.int (1 : Int32))])) (fun t_ k_ => XS.iconst X0.here hx rfl (hb hby own_d_jdk_43_method_46_0) k_) ?_
  obtain ⟨T1, h1, k1, X1, e1, E1, A1, st1⟩ := newP X0 hx hZ (hw _ (List.mem_of_getElem? (i := 6) rfl)) e0 (g := (mkF m 1 #[.val (.int v)] [(.int (1 : Int32))])) rfl (hb hby own_d_jdk_43_method_46_1) rfl (by decide) (cap := 1) (by decide) (by decide) (by decide) (by decide)
  obtain ⟨b1, g1⟩ : ∃ z, z = h0.size := ⟨_, rfl⟩
  rw [← g1] at A1 st1
  have ge_b1 : Z.heap.size ≤ b1 := Nat.le_trans O.1 (Nat.le_of_eq g1.symm)
  have sz_b1 : h0.size ≤ b1 := Nat.le_trans (Keep.refl h0 []).1 (Nat.le_of_eq g1.symm)
  have K1 : Keep h0 h1 [] := (Keep.refl h0 []).ext E1
  have O1 := own_ext O E1
  have V1 : Arv Z h1 b1 k1 .byte (1 : Int32) [(.int (0 : Int32))] (.int (0 : Int32)) := (Arv.new A1 (by decide)).pad (pad_rep [] (.int (0 : Int32)) 1)
  refine own_go (T1.setTop (mkF m 3 #[.val (.int v)] [(.ref b1)])) (fun t_ k_ => st1 _ k_) ?_
  refine own_go (T1.setTop (mkF m 4 #[.val (.int v)] [(.ref b1), (.ref b1)])) (fun t_ k_ => XS.dup X1.here hx rfl (hb hby own_d_jdk_43_method_46_3) rfl rfl k_) ?_
  refine own_go (T1.setTop (mkF m 5 #[.val (.int v)] [(.int (0 : Int32)), (.ref b1), (.ref b1)])) (fun t_ k_ => XS.iconst X1.here hx rfl (hb hby own_d_jdk_43_method_46_4) k_) ?_
  refine own_go (T1.setTop (mkF m 6 #[.val (.int v)] [(.int v), (.int (0 : Int32)), (.ref b1), (.ref b1)])) (fun t_ k_ => XS.iloadN X1.here hx rfl (hb hby own_d_jdk_43_method_46_5) rfl k_) ?_
  refine own_go (T1.setTop (mkF m 7 #[.val (.int v)] [(.int (v.toInt8.toInt32)), (.int (0 : Int32)), (.ref b1), (.ref b1)])) (fun t_ k_ => XS.i2b X1.here hx rfl (hb hby own_d_jdk_43_method_46_6) rfl k_) ?_
  obtain ⟨cl2, Ar2, q2, Sz2, Nz2, Hz2, Gz2⟩ := id (V1)
  have hin2 : ¬ ((0 : Int32) < 0 ∨ cl2.slots.size ≤ ((0 : Int32)).toNatClampNeg) := inb_of Sz2 ⟨by decide, by decide⟩
  obtain ⟨T2, h2, X2, e2, W2, st2⟩ := stB X1 hx hZ e1 Ar2 (j := (0 : Int32)) hin2  (g := (mkF m 7 #[.val (.int v)] [(.int (v.toInt8.toInt32)), (.int (0 : Int32)), (.ref b1), (.ref b1)])) rfl rfl (hb hby own_d_jdk_43_method_46_7)
  have V2 : Arv Z h2 b1 k1 .byte (1 : Int32) [(.int (nar .byte (v.toInt8.toInt32)))] (.int (0 : Int32)) := Arv.set Ar2 q2 Sz2 Nz2 Hz2 Gz2 (fits_nar_byte _) W2 0 rfl (Nat.le_of_ble_eq_true rfl)
  have K2 : Keep h0 h2 [] := K1.wr W2 (Or.inr sz_b1)
  have N2 := Fr.snoc X2 N0 ge_b1
  have O2 := own_extW O1 W2 ge_b1
  refine own_go (T2.setTop (mkF m 8 #[.val (.int v)] [(.ref b1)])) (fun t_ k_ => st2 _ k_) ?_
  obtain ⟨fs, hr, hrun, hended, hW, hsame⟩ := X2.leave (v := some (.ref b1)) (fun h => by rw [Bd.returns] at h; cases h)
  refine ⟨_, _, Jvm.RoadKit.retOut X2 hx Bd.returns rfl (Or.inr (Or.inr (Or.inr (Or.inr ⟨rfl, rfl, rfl⟩)))) (hb hby own_d_jdk_43_method_46_8) hr, hrun, hended, _, _, rfl, ?_, ⟨_, rfl⟩, hW, hsame.mono (by decide) (by decide)⟩
  show Q_tb Z v h0 _ T2.heap _
  rw [show T2.heap = h2 from e2]
  exact ⟨_, rfl, N2, K2⟩
theorem own_ef_sb (m : MethodId) (a : Addr) (q : Addr) : entryFrame m #[(.ref a), (.ref q), (.int (0 : Int32))] 3 = mkF m 0 #[.val (.ref a), .val (.ref q), .val (.int (0 : Int32))] [] := by first | (simp [entryFrame, mkF, argsToLocals, Value.category]; done) | rfl
theorem own_d_jdk_42_method_151_0 : decode jdk_42_method_151_code 0 = .ok (.aload_n 0, 1) := by decide +kernel
theorem own_d_jdk_42_method_151_1 : decode jdk_42_method_151_code 1 = .ok (.invokespecial 1, 3) := by decide +kernel
theorem own_d_jdk_42_method_151_4 : decode jdk_42_method_151_code 4 = .ok (.aload_n 0, 1) := by decide +kernel
theorem own_d_jdk_42_method_151_5 : decode jdk_42_method_151_code 5 = .ok (.aload_n 1, 1) := by decide +kernel
theorem own_d_jdk_42_method_151_6 : decode jdk_42_method_151_code 6 = .ok (.putfield 9, 3) := by decide +kernel
theorem own_d_jdk_42_method_151_9 : decode jdk_42_method_151_code 9 = .ok (.aload_n 0, 1) := by decide +kernel
theorem own_d_jdk_42_method_151_10 : decode jdk_42_method_151_code 10 = .ok (.iload_n 2, 1) := by decide +kernel
theorem own_d_jdk_42_method_151_11 : decode jdk_42_method_151_code 11 = .ok (.putfield 15, 3) := by decide +kernel
theorem own_d_jdk_42_method_151_14 : decode jdk_42_method_151_code 14 = .ok (.return_, 1) := by decide +kernel
def Q_sb (Z : State) (a : Addr) (q : Addr) (h0 : Heap) (v_ : Option Value) (h : Heap) (L_ : List Loc) : Prop := v_ = none ∧ Fr Z.heap.size L_ ∧ (Keep h0 h [a])
set_option maxRecDepth 65536 in
set_option maxHeartbeats 40000000 in
theorem rm_sb (l : Launch) (Z : State) (a0 : Array Value) (hw : ∀ d ∈ tables_1, d.before a0 Z = true) (ws : List Jvm.Cond) (a : Addr) (q : Addr) (h0 : Heap) (O : Ext Z.heap h0) (X : Exa Z h0 a "java/lang/String") (F : Fld Z h0 a "java/lang/String" "value" "[B" .null) (G : Fld Z h0 a "java/lang/String" "coder" "B" (.int 0)) (ga : Z.heap.size ≤ a) :
    MetFree l (⟨"java/lang/String", "<init>", "([BB)V"⟩ : MethodName) (head1 (Jvm.Cond.code (⟨"java/lang/String", "<init>", "([BB)V"⟩ : MethodName) jdk_42_method_151_code 3 none :: ws) ({ frames := 1, cells := 0, slots := 0, locals := 12 } : Room)) (fun a_ U_ => a_ = #[(.ref a), (.ref q), (.int (0 : Int32))] ∧ Z.Warmed39 U_.vm ∧ U_.heap = h0) (fun _ _ _ _ _ => True) (fun _ U_ o_ U2_ => ∃ v_ L_, o_ = .returned v_ ∧ Q_sb Z a q h0 v_ U2_.heap L_ ∧ FrameEnd U_ o_ U2_ L_ ({ frames := 1, cells := 0, slots := 0, locals := 12 } : Room).cells ({ frames := 1, cells := 0, slots := 0, locals := 12 } : Room).slots) := by
  refine MetFree.of_bodySF (plainFor_of_name own_pn2) hisR ?_
  intro p e s m args below meth c s₁ Bd hml0 hP hK
  obtain ⟨rfl, hZ, hh⟩ := hP
  have hx := Bd.exec
  have hby := Bd.bytes
  have hml : c.maxLocals = 3 := hml0
  have hown : s.vm.findClass "java/lang/String" = some m.cls := findClass_of_methodNamed Bd.named
  have hnm := (name_of_methodNamed Bd.named Bd.method).1
  have X0 : Stand p l e ({ frames := 1, cells := 0, slots := 0, locals := 12 } : Room) s m #[(.ref a), (.ref q), (.int (0 : Int32))] below meth c s₁ [] 0 0 := Stand.of_body Bd
  have e0 : s₁.heap = h0 := by rw [← hh, Bd.state]; rfl
  have N0 := Fr.nil Z.heap.size
  show own_G p e below (fun o_ s₂ => ∃ v_ L_, o_ = .returned v_ ∧ Q_sb Z a q h0 v_ s₂.heap L_ ∧ FrameEnd s o_ s₂ L_ ({ frames := 1, cells := 0, slots := 0, locals := 12 } : Room).cells ({ frames := 1, cells := 0, slots := 0, locals := 12 } : Room).slots) (s₁.setTop (entryFrame m #[(.ref a), (.ref q), (.int (0 : Int32))] 3))
  refine own_go (s₁.setTop (mkF m 0 #[.val (.ref a), .val (.ref q), .val (.int (0 : Int32))] [])) (fun t_ k_ => castTop (own_ef_sb m a q) k_) ?_
  refine own_go (s₁.setTop (mkF m 1 #[.val (.ref a), .val (.ref q), .val (.int (0 : Int32))] [(.ref a)])) (fun t_ k_ => XS.aloadN X0.here hx rfl (hb hby own_d_jdk_42_method_151_0) rfl rfl k_) ?_
  obtain ⟨T1, X1, e1, st1⟩ := initO X0 hx hZ hown (hw _ (List.mem_of_getElem? (i := 246) rfl)) (hw _ (List.mem_of_getElem? (i := 22) rfl)) (hw _ (List.mem_of_getElem? (i := 23) rfl)) e0 (g := (mkF m 1 #[.val (.ref a), .val (.ref q), .val (.int (0 : Int32))] [(.ref a)])) rfl (by rw [hml]; rfl) rfl (hb hby own_d_jdk_42_method_151_1) (by decide) (W := 0) (by show 2 * 0 + _ ≤ _; exact Nat.le_of_eq rfl) (by decide)
  refine own_go (T1.setTop (mkF m 4 #[.val (.ref a), .val (.ref q), .val (.int (0 : Int32))] [])) (fun t_ k_ => st1 _ k_) ?_
  refine own_go (T1.setTop (mkF m 5 #[.val (.ref a), .val (.ref q), .val (.int (0 : Int32))] [(.ref a)])) (fun t_ k_ => XS.aloadN X1.here hx rfl (hb hby own_d_jdk_42_method_151_4) rfl rfl k_) ?_
  refine own_go (T1.setTop (mkF m 6 #[.val (.ref a), .val (.ref q), .val (.int (0 : Int32))] [(.ref q), (.ref a)])) (fun t_ k_ => XS.aloadN X1.here hx rfl (hb hby own_d_jdk_42_method_151_5) rfl rfl k_) ?_
  obtain ⟨T2, h2, X2, e2, W2, st2⟩ := putF X1 hx hZ hown (host := "") (Or.inl (hw _ (List.mem_of_getElem? (i := 37) rfl))) Via.refl e1 F X (Or.inr ⟨(hw _ (List.mem_of_getElem? (i := 7) rfl)), rfl, hnm⟩) (hw _ (List.mem_of_getElem? (i := 5) rfl)) (ty := (.array .byte)) (by decide) rfl rfl (g := (mkF m 6 #[.val (.ref a), .val (.ref q), .val (.int (0 : Int32))] [(.ref q), (.ref a)])) rfl rfl (hb hby own_d_jdk_42_method_151_6)
  have Fw2 := F.same W2
  have K2 : Keep h0 h2 [a] := (Keep.refl h0 [a]).wr W2 (Or.inl (List.mem_of_getElem? (i := 0) rfl))
  have N2 := Fr.snoc X2 N0 ga
  have O2 := own_extW O W2 ga
  refine own_go (T2.setTop (mkF m 9 #[.val (.ref a), .val (.ref q), .val (.int (0 : Int32))] [])) (fun t_ k_ => st2 _ k_) ?_
  refine own_go (T2.setTop (mkF m 10 #[.val (.ref a), .val (.ref q), .val (.int (0 : Int32))] [(.ref a)])) (fun t_ k_ => XS.aloadN X2.here hx rfl (hb hby own_d_jdk_42_method_151_9) rfl rfl k_) ?_
  refine own_go (T2.setTop (mkF m 11 #[.val (.ref a), .val (.ref q), .val (.int (0 : Int32))] [(.int (0 : Int32)), (.ref a)])) (fun t_ k_ => XS.iloadN X2.here hx rfl (hb hby own_d_jdk_42_method_151_10) rfl k_) ?_
  have Fz3 := (X.wr W2)
  have Fz4 := (G.other W2 (Or.inr (slot_ne (a0 := a0) (Or.inr (hw _ (List.mem_of_getElem? (i := 8) rfl))) (Or.inr (hw _ (List.mem_of_getElem? (i := 7) rfl))) (by decide) (t := .byte) (t' := (.array .byte)) (by decide) (by decide))))
  obtain ⟨T5, h5, X5, e5, W5, st5⟩ := putFN X2 hx hZ hown (hw _ (List.mem_of_getElem? (i := 247) rfl)) Via.refl e2 Fz4 Fz3 (Or.inr ⟨(hw _ (List.mem_of_getElem? (i := 8) rfl)), rfl, hnm⟩) (hw _ (List.mem_of_getElem? (i := 5) rfl)) (ty := .byte) (v' := (.int (0 : Int32))) (by decide) rfl (by decide) (g := (mkF m 11 #[.val (.ref a), .val (.ref q), .val (.int (0 : Int32))] [(.int (0 : Int32)), (.ref a)])) rfl rfl (hb hby own_d_jdk_42_method_151_11)
  have Fw5 := Fz4.same W5
  have K5 : Keep h0 h5 [a] := K2.wr W5 (Or.inl (List.mem_of_getElem? (i := 0) rfl))
  have N5 := Fr.snoc X5 N2 ga
  have O5 := own_extW O2 W5 ga
  refine own_go (T5.setTop (mkF m 14 #[.val (.ref a), .val (.ref q), .val (.int (0 : Int32))] [])) (fun t_ k_ => st5 _ k_) ?_
  obtain ⟨fs, hr, hrun, hended, hW, hsame⟩ := X5.leave (v := none) (fun _ => rfl)
  refine ⟨_, _, X5.returnOut hx Bd.returns (hb hby own_d_jdk_42_method_151_14) hr, hrun, hended, _, _, rfl, ?_, ⟨_, rfl⟩, hW, hsame.mono (by decide) (by decide)⟩
  show Q_sb Z a q h0 _ T5.heap _
  rw [show T5.heap = h5 from e5]
  exact ⟨rfl, N5, K5⟩
theorem own_ef_vo (m : MethodId) (v : Int32) : entryFrame m #[(.int v)] 1 = mkF m 0 #[.val (.int v)] [] := by first | (simp [entryFrame, mkF, argsToLocals, Value.category]; done) | rfl
theorem own_d_jdk_42_method_139_0 : decode jdk_42_method_139_code 0 = .ok (.getstatic 38, 3) := by decide +kernel
theorem own_d_jdk_42_method_139_3 : decode jdk_42_method_139_code 3 = .ok (.ifCond .eq 23, 3) := by decide +kernel
theorem own_d_jdk_42_method_139_6 : decode jdk_42_method_139_code 6 = .ok (.iload_n 0, 1) := by decide +kernel
theorem own_d_jdk_42_method_139_7 : decode jdk_42_method_139_code 7 = .ok (.invokestatic 1015, 3) := by decide +kernel
theorem own_pd13 : parseMethodDescriptor "(C)Z" = some ⟨[.char], some .boolean⟩ := by decide +kernel
theorem own_d_jdk_42_method_139_10 : decode jdk_42_method_139_code 10 = .ok (.ifCond .eq 16, 3) := by decide +kernel
theorem own_d_jdk_42_method_139_13 : decode jdk_42_method_139_code 13 = .ok (.new 10, 3) := by decide +kernel
theorem own_d_jdk_42_method_139_16 : decode jdk_42_method_139_code 16 = .ok (.dup, 1) := by decide +kernel
theorem own_d_jdk_42_method_139_17 : decode jdk_42_method_139_code 17 = .ok (.iload_n 0, 1) := by decide +kernel
theorem own_d_jdk_42_method_139_18 : decode jdk_42_method_139_code 18 = .ok (.invokestatic 1018, 3) := by decide +kernel
theorem own_pd14 : parseMethodDescriptor "(C)[B" = some ⟨[.char], some (.array .byte)⟩ := by decide +kernel
theorem own_d_jdk_42_method_139_21 : decode jdk_42_method_139_code 21 = .ok (.iconst 0, 1) := by decide +kernel
theorem own_d_jdk_42_method_139_22 : decode jdk_42_method_139_code 22 = .ok (.invokespecial 209, 3) := by decide +kernel
theorem own_pd15 : parseMethodDescriptor "([BB)V" = some ⟨[(.array .byte), .byte], none⟩ := by decide +kernel
theorem own_d_jdk_42_method_139_25 : decode jdk_42_method_139_code 25 = .ok (.areturn, 1) := by decide +kernel
def Q_vo (Z : State) (v : Int32) (cs0 : Int32) (a_EM : Addr) (a_DF : Addr) (m_A : Addr) (m_L : Addr) (m_R : Addr) (h0 : Heap) (v_ : Option Value) (h : Heap) (L_ : List Loc) : Prop := ∃ (r : Addr), v_ = some (.ref r) ∧ Fr Z.heap.size L_ ∧ (Keep h0 h [])
set_option maxRecDepth 65536 in
set_option maxHeartbeats 40000000 in
theorem rm_vo (l : Launch) (Z : State) (a0 : Array Value) (hw : ∀ d ∈ tables_1, d.before a0 Z = true) (ws : List Jvm.Cond) (v : Int32) (cs0 : Int32) (a_EM : Addr) (a_DF : Addr) (m_A : Addr) (m_L : Addr) (m_R : Addr) (h0 : Heap) (O : Ext Z.heap h0) (w : own_W Z cs0 a_EM a_DF m_A m_L m_R) (hv : ¬ (255 : Int32) < v) :
    MetFree l (⟨"java/lang/String", "valueOf", "(C)Ljava/lang/String;"⟩ : MethodName) (head1 (Jvm.Cond.code (⟨"java/lang/String", "valueOf", "(C)Ljava/lang/String;"⟩ : MethodName) jdk_42_method_139_code 1 (some (.object "java/lang/String")) :: ws) ({ frames := 2, cells := 2, slots := 5, locals := 27 } : Room)) (fun a_ U_ => a_ = #[(.int v)] ∧ Z.Warmed39 U_.vm ∧ U_.heap = h0) (fun _ _ _ _ _ => True) (fun _ U_ o_ U2_ => ∃ v_ L_, o_ = .returned v_ ∧ Q_vo Z v cs0 a_EM a_DF m_A m_L m_R h0 v_ U2_.heap L_ ∧ FrameEnd U_ o_ U2_ L_ ({ frames := 2, cells := 2, slots := 5, locals := 27 } : Room).cells ({ frames := 2, cells := 2, slots := 5, locals := 27 } : Room).slots) := by
  refine MetFree.of_bodySF (plainFor_of_name own_pn2) hisR ?_
  intro p e s m args below meth c s₁ Bd hml0 hP hK
  obtain ⟨rfl, hZ, hh⟩ := hP
  have hx := Bd.exec
  have hby := Bd.bytes
  have hml : c.maxLocals = 1 := hml0
  have hown : s.vm.findClass "java/lang/String" = some m.cls := findClass_of_methodNamed Bd.named
  have hnm := (name_of_methodNamed Bd.named Bd.method).1
  have X0 : Stand p l e ({ frames := 2, cells := 2, slots := 5, locals := 27 } : Room) s m #[(.int v)] below meth c s₁ [] 0 0 := Stand.of_body Bd
  have e0 : s₁.heap = h0 := by rw [← hh, Bd.state]; rfl
  have N0 := Fr.nil Z.heap.size
  show own_G p e below (fun o_ s₂ => ∃ v_ L_, o_ = .returned v_ ∧ Q_vo Z v cs0 a_EM a_DF m_A m_L m_R h0 v_ s₂.heap L_ ∧ FrameEnd s o_ s₂ L_ ({ frames := 2, cells := 2, slots := 5, locals := 27 } : Room).cells ({ frames := 2, cells := 2, slots := 5, locals := 27 } : Room).slots) (s₁.setTop (entryFrame m #[(.int v)] 1))
  refine own_go (s₁.setTop (mkF m 0 #[.val (.int v)] [])) (fun t_ k_ => castTop (own_ef_vo m v) k_) ?_
  have w' := w
  obtain ⟨S_CS, n_CS, S_EM, S_DF, M_A, M_L, M_R⟩ := w'
  obtain ⟨T1, X1, e1, st1⟩ := getS2 X0 hx hZ hown (host := "") (Or.inl (hw _ (List.mem_of_getElem? (i := 233) rfl))) Via.refl e0 (S_CS.ext O) (g := (mkF m 0 #[.val (.int v)] [])) rfl (hb hby own_d_jdk_42_method_139_0)
  refine own_go (T1.setTop (mkF m 3 #[.val (.int v)] [(.int cs0)])) (fun t_ k_ => st1 _ k_) ?_
  refine own_go (T1.setTop (mkF m 6 #[.val (.int v)] [])) (fun t_ k_ => XS.ifNo X1.here hx rfl (hb hby own_d_jdk_42_method_139_3) rfl ((if0 _ _).trans (feq n_CS).1) k_) ?_
  refine own_go (T1.setTop (mkF m 7 #[.val (.int v)] [(.int v)])) (fun t_ k_ => XS.iloadN X1.here hx rfl (hb hby own_d_jdk_42_method_139_6) rfl k_) ?_
  obtain ⟨_, _, ⟨T2, Lu2, ku2, nu2⟩, -, X2, ⟨Lc2, hQ2, lu2, yu2, zu2⟩, st2⟩ := Jvm.LawKit.callS X1 hx (y := (⟨"java/lang/StringLatin1", "canEncode", "(C)Z"⟩ : MethodName)) hown (mvT hZ (hw _ (List.mem_of_getElem? (i := 234) rfl))) (mvT hZ (hw _ (List.mem_of_getElem? (i := 235) rfl))) (mvT hZ (hw _ (List.mem_of_getElem? (i := 236) rfl))) (mvT hZ (hw _ (List.mem_of_getElem? (i := 237) rfl))) (by decide) (backOf (W := 0) (rm_ce l Z a0 hw [] (v) h0 O hv) hZ (hw _ (List.mem_of_getElem? (i := 237) rfl)) (hw _ (List.mem_of_getElem? (i := 236) rfl)) (by decide) (by decide)) (g := (mkF m 7 #[.val (.int v)] [(.int v)])) rfl (by rw [hml]; rfl) (argsL := [(.int v)]) (rest := []) (lenOf own_pd13 rfl) rfl (by show 2 * 0 + _ ≤ _; exact Nat.le_of_eq rfl) (hb hby own_d_jdk_42_method_139_7) (fun _ _ => ⟨rfl, e1, (by decide : 0 + 0 ≤ _), (by decide : 0 + 0 ≤ _)⟩)
  dsimp only [Pt.U, Pt.locs, Pt.cells, Pt.slots] at X2 lu2 yu2 zu2 st2 hQ2
  subst lu2 yu2 zu2
  obtain ⟨rfl, N2q, e2⟩ := hQ2
  have N2 := Fr.app N0 N2q
  refine own_go (T2.setTop (mkF m 10 #[.val (.int v)] [(.int (1 : Int32))])) (fun t_ k_ => st2 _ k_) ?_
  refine own_go (T2.setTop (mkF m 13 #[.val (.int v)] [])) (fun t_ k_ => XS.ifNo X2.here hx rfl (hb hby own_d_jdk_42_method_139_10) rfl ((if0 _ _).trans (feq (by decide : ¬ ((1 : Int32) = (0 : Int32)))).1) k_) ?_
  obtain ⟨T3, h3, X3, e3, E3, A3, D3, U3, st3⟩ := newO X2 hx hZ hown (hw _ (List.mem_of_getElem? (i := 238) rfl)) (hw _ (List.mem_of_getElem? (i := 5) rfl)) (hw _ (List.mem_of_getElem? (i := 4) rfl)) e2 (g := (mkF m 13 #[.val (.int v)] [])) rfl (hb hby own_d_jdk_42_method_139_13) (by decide) (by decide)
  obtain ⟨b3, g3⟩ : ∃ z, z = h0.size := ⟨_, rfl⟩
  rw [← g3] at A3 D3 U3 st3
  have ge_b3 : Z.heap.size ≤ b3 := Nat.le_trans O.1 (Nat.le_of_eq g3.symm)
  have sz_b3 : h0.size ≤ b3 := Nat.le_trans (Keep.refl h0 []).1 (Nat.le_of_eq g3.symm)
  have K3 : Keep h0 h3 [] := (Keep.refl h0 []).ext E3
  have O3 := own_ext O E3
  have Fvalue_3 : Fld Z h3 b3 "java/lang/String" "value" "[B" .null := D3 (Or.inr (hw _ (List.mem_of_getElem? (i := 7) rfl))) (ty := (.array .byte)) (by decide)
  have Fcoder_3 : Fld Z h3 b3 "java/lang/String" "coder" "B" (.int (0 : Int32)) := D3 (Or.inr (hw _ (List.mem_of_getElem? (i := 8) rfl))) (ty := .byte) (by decide)
  refine own_go (T3.setTop (mkF m 16 #[.val (.int v)] [(.ref b3)])) (fun t_ k_ => st3 _ k_) ?_
  refine own_go (T3.setTop (mkF m 17 #[.val (.int v)] [(.ref b3), (.ref b3)])) (fun t_ k_ => XS.dup X3.here hx rfl (hb hby own_d_jdk_42_method_139_16) rfl rfl k_) ?_
  refine own_go (T3.setTop (mkF m 18 #[.val (.int v)] [(.int v), (.ref b3), (.ref b3)])) (fun t_ k_ => XS.iloadN X3.here hx rfl (hb hby own_d_jdk_42_method_139_17) rfl k_) ?_
  obtain ⟨_, _, ⟨T4, Lu4, ku4, nu4⟩, -, X4, ⟨Lc4, hQ4, lu4, yu4, zu4⟩, st4⟩ := Jvm.LawKit.callS X3 hx (y := (⟨"java/lang/StringLatin1", "toBytes", "(C)[B"⟩ : MethodName)) hown (mvT hZ (hw _ (List.mem_of_getElem? (i := 239) rfl))) (mvT hZ (hw _ (List.mem_of_getElem? (i := 240) rfl))) (mvT hZ (hw _ (List.mem_of_getElem? (i := 236) rfl))) (mvT hZ (hw _ (List.mem_of_getElem? (i := 241) rfl))) (by decide) (backOf (W := 2) (rm_tb l Z a0 hw [] (v) h3 O3 ) hZ (hw _ (List.mem_of_getElem? (i := 241) rfl)) (hw _ (List.mem_of_getElem? (i := 236) rfl)) (by decide) (by decide)) (g := (mkF m 18 #[.val (.int v)] [(.int v), (.ref b3), (.ref b3)])) rfl (by rw [hml]; rfl) (argsL := [(.int v)]) (rest := [(.ref b3), (.ref b3)]) (lenOf own_pd14 rfl) rfl (by show 2 * 0 + _ ≤ _; exact Nat.le_of_eq rfl) (hb hby own_d_jdk_42_method_139_18) (fun _ _ => ⟨rfl, e3, (by decide : 1 + 1 ≤ _), (by decide : 4 + 1 ≤ _)⟩)
  dsimp only [Pt.U, Pt.locs, Pt.cells, Pt.slots] at X4 lu4 yu4 zu4 st4 hQ4
  subst lu4 yu4 zu4
  obtain ⟨r4, rfl, N4q, K4q⟩ := hQ4
  have N4 := Fr.app N2 N4q
  have O4 := own_extK O3 K4q all0
  have KK4 : Keep h0 T4.heap [] := K3.trans K4q all0
  refine own_go (T4.setTop (mkF m 21 #[.val (.int v)] [(.ref r4), (.ref b3), (.ref b3)])) (fun t_ k_ => st4 _ k_) ?_
  refine own_go (T4.setTop (mkF m 22 #[.val (.int v)] [(.int (0 : Int32)), (.ref r4), (.ref b3), (.ref b3)])) (fun t_ k_ => XS.iconst X4.here hx rfl (hb hby own_d_jdk_42_method_139_21) k_) ?_
  have Fz5 := (A3.keep K4q)
  have Fz6 := (Fvalue_3.keep K4q nin0)
  have Fz7 := (Fcoder_3.keep K4q nin0)
  obtain ⟨_, _, ⟨T8, Lu8, ku8, nu8⟩, -, X8, ⟨Lc8, hQ8, lu8, yu8, zu8⟩, st8⟩ := X4.specialBack hx (y := (⟨"java/lang/String", "<init>", "([BB)V"⟩ : MethodName)) rfl hown (mvT hZ (hw _ (List.mem_of_getElem? (i := 242) rfl))) (mvT hZ (hw _ (List.mem_of_getElem? (i := 243) rfl))) (mvT hZ (hw _ (List.mem_of_getElem? (i := 245) rfl))) (by decide) (backOf (W := 1) (rm_sb l Z a0 hw [] (b3) (r4) T4.heap O4 Fz5 Fz6 Fz7 ge_b3) hZ (hw _ (List.mem_of_getElem? (i := 245) rfl)) (hw _ (List.mem_of_getElem? (i := 4) rfl)) (by decide) (by decide)) (g := (mkF m 22 #[.val (.int v)] [(.int (0 : Int32)), (.ref r4), (.ref b3), (.ref b3)])) rfl (by rw [hml]; rfl) (Steps.refl _) (a := b3) (argsL := [(.ref r4), (.int (0 : Int32))]) (rest := [(.ref b3)]) (lenOf own_pd15 rfl) rfl (by show 2 * 0 + _ ≤ _; exact Nat.le_of_eq rfl) (hb hby own_d_jdk_42_method_139_22) (fun _ _ => ⟨rfl, rfl, (by decide : 2 + 0 ≤ _), (by decide : 5 + 0 ≤ _)⟩)
  dsimp only [Pt.U, Pt.locs, Pt.cells, Pt.slots] at X8 lu8 yu8 zu8 st8 hQ8
  subst lu8 yu8 zu8
  obtain ⟨rfl, N8q, K8q⟩ := hQ8
  have N8 := Fr.app N4 N8q
  have O8 := own_extK O4 K8q (allS ge_b3 all0)
  have KK8 : Keep h0 T8.heap [] := KK4.trans K8q (allS (Or.inr sz_b3) all0)
  refine own_go (T8.setTop (mkF m 25 #[.val (.int v)] [(.ref b3)])) (fun t_ k_ => st8.trans k_) ?_
  obtain ⟨fs, hr, hrun, hended, hW, hsame⟩ := X8.leave (v := some (.ref b3)) (fun h => by rw [Bd.returns] at h; cases h)
  refine ⟨_, _, Jvm.RoadKit.retOut X8 hx Bd.returns rfl (Or.inr (Or.inr (Or.inr (Or.inr ⟨rfl, rfl, rfl⟩)))) (hb hby own_d_jdk_42_method_139_25) hr, hrun, hended, _, _, rfl, ?_, ⟨_, rfl⟩, hW, hsame.mono (by decide) (by decide)⟩
  show Q_vo Z v cs0 a_EM a_DF m_A m_L m_R h0 _ T8.heap _
  rw [show T8.heap = T8.heap from rfl]
  exact ⟨_, rfl, N8, KK8⟩
theorem own_v255 (x : Int32) : ¬ (255 : Int32) < ((x &&& (255 : Int32)).toUInt32.toUInt16.toUInt32.toInt32) := by
  rw [i2c_mask]; exact (own_byte x).2
theorem own_ef_law (m : MethodId) (p0 : Int32) (p1 : Int32) (p2 : Int32) (p3 : Int32) (p4 : Int32) (p5 : Int32) : entryFrame m #[(.int p0), (.int p1), (.int p2), (.int p3), (.int p4), (.int p5)] maxLocals = mkF m 0 #[.val (.int p0), .val (.int p1), .val (.int p2), .val (.int p3), .val (.int p4), .val (.int p5), .unset, .unset, .unset, .unset, .unset, .unset, .unset] [] := by first | (simp [entryFrame, mkF, argsToLocals, Value.category, maxLocals]; done) | rfl
theorem own_lit_ParticipantObjectQueryPinLaw_9 : ∀ c ∈ ([99] : List Int32), ¬ c < 0 ∧ ¬ (255 : Int32) < c := by decide +kernel
theorem own_lit_ParticipantObjectQueryPinLaw_11 : ∀ c ∈ ([115] : List Int32), ¬ c < 0 ∧ ¬ (255 : Int32) < c := by decide +kernel
theorem own_lit_ParticipantObjectQueryPinLaw_13 : ∀ c ∈ ([111] : List Int32), ¬ c < 0 ∧ ¬ (255 : Int32) < c := by decide +kernel
theorem own_pd16 : parseMethodDescriptor "(Ljava/lang/String;Ljava/lang/String;Ljava/lang/String;)V" = some ⟨[(.object "java/lang/String"), (.object "java/lang/String"), (.object "java/lang/String")], none⟩ := by decide +kernel
theorem own_pd17 : parseMethodDescriptor "([BII)V" = some ⟨[(.array .byte), .int, .int], none⟩ := by decide +kernel
theorem own_lit_ParticipantObjectQueryPinLaw_23 : ∀ c ∈ ([105] : List Int32), ¬ c < 0 ∧ ¬ (255 : Int32) < c := by decide +kernel
theorem own_lit_ParticipantObjectQueryPinLaw_25 : ∀ c ∈ ([116] : List Int32), ¬ c < 0 ∧ ¬ (255 : Int32) < c := by decide +kernel
theorem own_pd18 : parseMethodDescriptor "(Ljava/lang/String;Ljava/lang/String;Ljava/lang/String;Lcom/example/trailcaster/trailcaster/model/CodedValue;Ljava/lang/String;[BLjava/util/List;Lcom/example/trailcaster/trailcaster/model/DicomObjectDescription;)V" = some ⟨[(.object "java/lang/String"), (.object "java/lang/String"), (.object "java/lang/String"), (.object "com/example/trailcaster/trailcaster/model/CodedValue"), (.object "java/lang/String"), (.array .byte), (.object "java/util/List"), (.object "com/example/trailcaster/trailcaster/model/DicomObjectDescription")], none⟩ := by decide +kernel
theorem own_pd19 : parseMethodDescriptor "([BI)V" = some ⟨[(.array .byte), .int], none⟩ := by decide +kernel
theorem own_pd20 : parseMethodDescriptor "()[B" = some ⟨[], some (.array .byte)⟩ := by decide +kernel
theorem own_pd21 : parseMethodDescriptor "([BIIIII)Z" = some ⟨[(.array .byte), .int, .int, .int, .int, .int], some .boolean⟩ := by decide +kernel
theorem own_pd22 : parseMethodDescriptor "(C)Ljava/lang/String;" = some ⟨[.char], some (.object "java/lang/String")⟩ := by decide +kernel
def Q_law (Z : State) (p0 : Int32) (p1 : Int32) (p2 : Int32) (p3 : Int32) (p4 : Int32) (p5 : Int32) (cs0 : Int32) (a_EM : Addr) (a_DF : Addr) (m_A : Addr) (m_L : Addr) (m_R : Addr) (h0 : Heap) (v_ : Option Value) (h : Heap) (L_ : List Loc) : Prop := v_ = some (.int 1) ∧ Fr Z.heap.size L_ ∧ (True)
set_option maxRecDepth 65536 in
set_option maxHeartbeats 40000000 in
theorem rm_law (l : Launch) (Z : State) (a0 : Array Value) (hw : ∀ d ∈ tables_1, d.before a0 Z = true) (ws : List Jvm.Cond) (p0 : Int32) (p1 : Int32) (p2 : Int32) (p3 : Int32) (p4 : Int32) (p5 : Int32) (cs0 : Int32) (a_EM : Addr) (a_DF : Addr) (m_A : Addr) (m_L : Addr) (m_R : Addr) (h0 : Heap) (O : Ext Z.heap h0) (w : own_W Z cs0 a_EM a_DF m_A m_L m_R) :
    MetFree l x (head1 (Jvm.Cond.code x code maxLocals ret :: ws) room_1) (fun a_ U_ => a_ = #[(.int p0), (.int p1), (.int p2), (.int p3), (.int p4), (.int p5)] ∧ Z.Warmed39 U_.vm ∧ U_.heap = h0 ∧ CHv Z consts_1 U_.vm h0) (fun _ _ _ _ _ => True) (fun _ U_ o_ U2_ => ∃ v_ L_, o_ = .returned v_ ∧ Q_law Z p0 p1 p2 p3 p4 p5 cs0 a_EM a_DF m_A m_L m_R h0 v_ U2_.heap L_ ∧ ReturnedEndW U_ o_ U2_ L_ room_1.cells room_1.slots) := by
  refine MetFree.of_bodySF (plainFor_of_name own_pn13) hisR ?_
  intro p e s m args below meth c s₁ Bd hml0 hP hK
  obtain ⟨rfl, hZ, hh, hCH⟩ := hP
  have hx := Bd.exec
  have hby := Bd.bytes
  have hml : c.maxLocals = 13 := hml0
  have hown : s.vm.findClass "com/example/trailcaster/trailcaster/model/ParticipantObjectQueryPinLaw" = some m.cls := findClass_of_methodNamed Bd.named
  have hnm := (name_of_methodNamed Bd.named Bd.method).1
  have X0 : Stand p l e room_1 (s.setVm s.vm) m #[(.int p0), (.int p1), (.int p2), (.int p3), (.int p4), (.int p5)] below meth c s₁ [] 0 0 := Stand.of_body Bd
  have e0 : s₁.heap = h0 := by rw [← hh, Bd.state]; rfl
  have N0 := Fr.nil Z.heap.size
  have hS : s.Since s.vm s.heap.size := (State.WarmedH.refl _).since _
  have hk : s.heap.size ≤ h0.size := Nat.le_of_eq (congrArg Array.size hh)
  have hZ : Z.Warmed39 (s.setVm s.vm).vm := hZ
  have hown : (s.setVm s.vm).vm.findClass "com/example/trailcaster/trailcaster/model/ParticipantObjectQueryPinLaw" = some m.cls := hown
  show own_G p e below (fun o_ s₂ => ∃ v_ L_, o_ = .returned v_ ∧ Q_law Z p0 p1 p2 p3 p4 p5 cs0 a_EM a_DF m_A m_L m_R h0 v_ s₂.heap L_ ∧ ReturnedEndW s o_ s₂ L_ room_1.cells room_1.slots) (s₁.setTop (entryFrame m #[(.int p0), (.int p1), (.int p2), (.int p3), (.int p4), (.int p5)] maxLocals))
  refine own_go (s₁.setTop (mkF m 0 #[.val (.int p0), .val (.int p1), .val (.int p2), .val (.int p3), .val (.int p4), .val (.int p5), .unset, .unset, .unset, .unset, .unset, .unset, .unset] [])) (fun t_ k_ => castTop (own_ef_law m p0 p1 p2 p3 p4 p5) k_) ?_
  have R0 := CHr.refl hCH
  have hEW : EW Z a0 consts_1 := own_EW hw
  have w' := w
  obtain ⟨S_CS, n_CS, S_EM, S_DF, M_A, M_L, M_R⟩ := w'
  obtain ⟨T1, h1, X1, e1, E1, A1, D1, U1, st1⟩ := newO X0 hx hZ hown (hw _ (List.mem_of_getElem? (i := 0) rfl)) (hw _ (List.mem_of_getElem? (i := 1) rfl)) (hw _ (List.mem_of_getElem? (i := 2) rfl)) e0 (g := (mkF m 0 #[.val (.int p0), .val (.int p1), .val (.int p2), .val (.int p3), .val (.int p4), .val (.int p5), .unset, .unset, .unset, .unset, .unset, .unset, .unset] [])) rfl (hb hby at_0) (by decide) (by decide)
  obtain ⟨b1, g1⟩ : ∃ z, z = h0.size := ⟨_, rfl⟩
  rw [← g1] at A1 D1 U1 st1
  have ge_b1 : Z.heap.size ≤ b1 := Nat.le_trans O.1 (Nat.le_of_eq g1.symm)
  have sz_b1 : h0.size ≤ b1 := Nat.le_trans (Keep.refl h0 []).1 (Nat.le_of_eq g1.symm)
  have R1 := R0.trans (CHr.ext E1 R0.1)
  have Sf1 := Safe.ext (x := b1) E1 R0.1 (Safe.new (Nat.le_of_eq g1.symm))
  have K1 : Keep h0 h1 [] := (Keep.refl h0 []).ext E1
  have O1 := own_ext O E1
  have Fcode_1 : Fld Z h1 b1 "com/example/trailcaster/trailcaster/model/CodedValue" "code" "Ljava/lang/String;" .null := D1 (Or.inr (hw _ (List.mem_of_getElem? (i := 41) rfl))) (ty := (.object "java/lang/String")) (by decide)
  have FcodeSystemName_1 : Fld Z h1 b1 "com/example/trailcaster/trailcaster/model/CodedValue" "codeSystemName" "Ljava/lang/String;" .null := D1 (Or.inr (hw _ (List.mem_of_getElem? (i := 43) rfl))) (ty := (.object "java/lang/String")) (by decide)
  have ForiginalText_1 : Fld Z h1 b1 "com/example/trailcaster/trailcaster/model/CodedValue" "originalText" "Ljava/lang/String;" .null := D1 (Or.inr (hw _ (List.mem_of_getElem? (i := 45) rfl))) (ty := (.object "java/lang/String")) (by decide)
  refine own_go (T1.setTop (mkF m 3 #[.val (.int p0), .val (.int p1), .val (.int p2), .val (.int p3), .val (.int p4), .val (.int p5), .unset, .unset, .unset, .unset, .unset, .unset, .unset] [(.ref b1)])) (fun t_ k_ => st1 _ k_) ?_
  refine own_go (T1.setTop (mkF m 4 #[.val (.int p0), .val (.int p1), .val (.int p2), .val (.int p3), .val (.int p4), .val (.int p5), .unset, .unset, .unset, .unset, .unset, .unset, .unset] [(.ref b1), (.ref b1)])) (fun t_ k_ => XS.dup X1.here hx rfl (hb hby at_3) rfl rfl k_) ?_
  obtain ⟨a2, T2, h2, k2, t2, kb2, X2, e2, E2, hS, hk, hZ, hown, A2, C2, V2, B2, lt2, ltb2, CC2, Li2, ne2, st2⟩ := ldcCH (EL := consts_1) X1 hx hZ hown (hw _ (List.mem_of_getElem? (i := 3) rfl)) (fun d hd => hw d (own_sA d hd)) e1 hS (Nat.le_trans hk E1.1) hEW (List.mem_of_getElem? (i := 8) rfl) R1.1 (vs := (([99] : List Int32).map (fun c => c.toInt8.toInt32)).map Value.int) (z := 1) (by exact ⟨by decide, by rfl⟩) (by decide) (by rfl) (g := (mkF m 4 #[.val (.int p0), .val (.int p1), .val (.int p2), .val (.int p3), .val (.int p4), .val (.int p5), .unset, .unset, .unset, .unset, .unset, .unset, .unset] [(.ref b1), (.ref b1)])) rfl (hb hby at_4) (n := 4) (by decide) (by decide) (by decide) (by decide)
  have K2 : Keep h0 h2 [] := K1.ext E2
  have O2 := own_ext O1 E2
  have R2 := R1.trans CC2
  refine own_go (T2.setTop (mkF m 6 #[.val (.int p0), .val (.int p1), .val (.int p2), .val (.int p3), .val (.int p4), .val (.int p5), .unset, .unset, .unset, .unset, .unset, .unset, .unset] [(.ref a2), (.ref b1), (.ref b1)])) (fun t_ k_ => st2 _ k_) ?_
  obtain ⟨a3, T3, h3, k3, t3, kb3, X3, e3, E3, hS, hk, hZ, hown, A3, C3, V3, B3, lt3, ltb3, CC3, Li3, ne3, st3⟩ := ldcCH (EL := consts_1) X2 hx hZ hown (hw _ (List.mem_of_getElem? (i := 11) rfl)) (fun d hd => hw d (own_sA d hd)) e2 hS hk hEW (List.mem_of_getElem? (i := 9) rfl) R2.1 (vs := (([115] : List Int32).map (fun c => c.toInt8.toInt32)).map Value.int) (z := 1) (by exact ⟨by decide, by rfl⟩) (by decide) (by rfl) (g := (mkF m 6 #[.val (.int p0), .val (.int p1), .val (.int p2), .val (.int p3), .val (.int p4), .val (.int p5), .unset, .unset, .unset, .unset, .unset, .unset, .unset] [(.ref a2), (.ref b1), (.ref b1)])) rfl (hb hby at_6) (n := 4) (by decide) (by decide) (by decide) (by decide)
  have K3 : Keep h0 h3 [] := K2.ext E3
  have O3 := own_ext O2 E3
  have R3 := R2.trans CC3
  refine own_go (T3.setTop (mkF m 8 #[.val (.int p0), .val (.int p1), .val (.int p2), .val (.int p3), .val (.int p4), .val (.int p5), .unset, .unset, .unset, .unset, .unset, .unset, .unset] [(.ref a3), (.ref a2), (.ref b1), (.ref b1)])) (fun t_ k_ => st3 _ k_) ?_
  obtain ⟨a4, T4, h4, k4, t4, kb4, X4, e4, E4, hS, hk, hZ, hown, A4, C4, V4, B4, lt4, ltb4, CC4, Li4, ne4, st4⟩ := ldcCH (EL := consts_1) X3 hx hZ hown (hw _ (List.mem_of_getElem? (i := 12) rfl)) (fun d hd => hw d (own_sA d hd)) e3 hS hk hEW (List.mem_of_getElem? (i := 10) rfl) R3.1 (vs := (([111] : List Int32).map (fun c => c.toInt8.toInt32)).map Value.int) (z := 1) (by exact ⟨by decide, by rfl⟩) (by decide) (by rfl) (g := (mkF m 8 #[.val (.int p0), .val (.int p1), .val (.int p2), .val (.int p3), .val (.int p4), .val (.int p5), .unset, .unset, .unset, .unset, .unset, .unset, .unset] [(.ref a3), (.ref a2), (.ref b1), (.ref b1)])) rfl (hb hby at_8) (n := 4) (by decide) (by decide) (by decide) (by decide)
  have K4 : Keep h0 h4 [] := K3.ext E4
  have O4 := own_ext O3 E4
  have R4 := R3.trans CC4
  refine own_go (T4.setTop (mkF m 10 #[.val (.int p0), .val (.int p1), .val (.int p2), .val (.int p3), .val (.int p4), .val (.int p5), .unset, .unset, .unset, .unset, .unset, .unset, .unset] [(.ref a4), (.ref a3), (.ref a2), (.ref b1), (.ref b1)])) (fun t_ k_ => st4 _ k_) ?_
  have Fz5 := (((A1.ext E2).ext E3).ext E4)
  have Fz6 := (((Fcode_1.ext E2).ext E3).ext E4)
  have Fz7 := (((FcodeSystemName_1.ext E2).ext E3).ext E4)
  have Fz8 := (((ForiginalText_1.ext E2).ext E3).ext E4)
  have Fz9 := ((A2.ext E3).ext E4)
  have Fz10 := ((V2.ext E3).ext E4)
  have Fz11 := ((B2.ext E3).ext E4)
  have Fz12 := (A3.ext E4)
  have Fz13 := (V3.ext E4)
  have Fz14 := (B3.ext E4)
  obtain ⟨_, _, ⟨T15, Lu15, ku15, nu15⟩, -, X15, hS15, hg15, ⟨Lc15, hQ15, lu15, yu15, zu15, C15⟩, st15⟩ := X4.specialBackS hx (y := (⟨"com/example/trailcaster/trailcaster/model/CodedValue", "<init>", "(Ljava/lang/String;Ljava/lang/String;Ljava/lang/String;)V"⟩ : MethodName)) rfl hown (mvT hZ (hw _ (List.mem_of_getElem? (i := 13) rfl))) (mvT hZ (hw _ (List.mem_of_getElem? (i := 14) rfl))) (mvT hZ (hw _ (List.mem_of_getElem? (i := 15) rfl))) (by decide) (backOfSH (W := 1) (rm_cv l Z a0 hw [] (b1) (a2) (t2) (kb2) (_) (a3) (t3) (kb3) (_) (a4) (t4) (kb4) (_) h4 O4 Fz5 Fz6 Fz7 Fz8 ge_b1 Fz9 Fz10 Fz11 Fz12 Fz13 Fz14 A4 V4 B4) hZ (hw _ (List.mem_of_getElem? (i := 15) rfl)) (hw _ (List.mem_of_getElem? (i := 2) rfl)) (by decide) (by decide) hEW R4.1) (g := (mkF m 10 #[.val (.int p0), .val (.int p1), .val (.int p2), .val (.int p3), .val (.int p4), .val (.int p5), .unset, .unset, .unset, .unset, .unset, .unset, .unset] [(.ref a4), (.ref a3), (.ref a2), (.ref b1), (.ref b1)])) rfl (by rw [hml]; rfl) (Steps.refl _) (a := b1) (argsL := [(.ref a2), (.ref a3), (.ref a4)]) (rest := [(.ref b1)]) (lenOf own_pd16 rfl) rfl (by show 2 * 0 + _ ≤ _; exact Nat.le_of_eq rfl) (hb hby at_10) (fun _ _ => ⟨rfl, e4, (by decide : 7 + 6 ≤ _), (by decide : 27 + 132 ≤ _)⟩)
  dsimp only [Pt.U, Pt.locs, Pt.cells, Pt.slots] at X15 lu15 yu15 zu15 st15 hQ15 hS15 hg15 C15
  subst lu15 yu15 zu15
  obtain ⟨X15, hS, hZ, hown⟩ := rebS hS (by rw [show T4.heap = h4 from e4]; exact hk) X15 hS15 hg15 hZ hown
  have R15 := R4.trans C15
  obtain ⟨rfl, N15q, K15q⟩ := hQ15
  have N15 := Fr.app N0 N15q
  have O15 := own_extK O4 K15q (allS ge_b1 all0)
  have KK15 : Keep h0 T15.heap [] := K4.trans K15q (allS (Or.inr sz_b1) all0)
  have Fz16 := (CC4.safe ((A1.ext E2).ext E3).lt (CC3.safe (A1.ext E2).lt (CC2.safe A1.lt Sf1)))
  refine own_go (T15.setTop (mkF m 13 #[.val (.int p0), .val (.int p1), .val (.int p2), .val (.int p3), .val (.int p4), .val (.int p5), .unset, .unset, .unset, .unset, .unset, .unset, .unset] [(.ref b1)])) (fun t_ k_ => st15.trans k_) ?_
  refine own_go (T15.setTop (mkF m 15 #[.val (.int p0), .val (.int p1), .val (.int p2), .val (.int p3), .val (.int p4), .val (.int p5), .val (.ref b1), .unset, .unset, .unset, .unset, .unset, .unset] [])) (fun t_ k_ => XS.astore X15.here hx rfl (hb hby at_13) rfl rfl (l' := #[.val (.int p0), .val (.int p1), .val (.int p2), .val (.int p3), .val (.int p4), .val (.int p5), .val (.ref b1), .unset, .unset, .unset, .unset, .unset, .unset]) rfl k_) ?_
  obtain ⟨T17, h17, X17, e17, E17, A17, D17, U17, st17⟩ := newO X15 hx hZ hown (hw _ (List.mem_of_getElem? (i := 46) rfl)) (hw _ (List.mem_of_getElem? (i := 47) rfl)) (hw _ (List.mem_of_getElem? (i := 48) rfl)) rfl (g := (mkF m 15 #[.val (.int p0), .val (.int p1), .val (.int p2), .val (.int p3), .val (.int p4), .val (.int p5), .val (.ref b1), .unset, .unset, .unset, .unset, .unset, .unset] [])) rfl (hb hby at_15) (by decide) (by decide)
  obtain ⟨b17, g17⟩ : ∃ z, z = T15.heap.size := ⟨_, rfl⟩
  rw [← g17] at A17 D17 U17 st17
  have ge_b17 : Z.heap.size ≤ b17 := Nat.le_trans O15.1 (Nat.le_of_eq g17.symm)
  have sz_b17 : h0.size ≤ b17 := Nat.le_trans KK15.1 (Nat.le_of_eq g17.symm)
  have R17 := R15.trans (CHr.ext E17 R15.1)
  have Sf17 := Safe.ext (x := b17) E17 R15.1 (Safe.new (Nat.le_of_eq g17.symm))
  have K17 : Keep h0 h17 [] := KK15.ext E17
  have O17 := own_ext O15 E17
  have FmodCount_17 : Fld Z h17 b17 "java/util/AbstractList" "modCount" "I" (.int (0 : Int32)) := D17 (Or.inl (hw _ (List.mem_of_getElem? (i := 66) rfl))) (ty := .int) (by decide)
  have FelementData_17 : Fld Z h17 b17 "java/util/ArrayList" "elementData" "[Ljava/lang/Object;" .null := D17 (Or.inl (hw _ (List.mem_of_getElem? (i := 69) rfl))) (ty := (.array (.object "java/lang/Object"))) (by decide)
  have Fsize_17 : Fld Z h17 b17 "java/util/ArrayList" "size" "I" (.int (0 : Int32)) := D17 (Or.inl (hw _ (List.mem_of_getElem? (i := 117) rfl))) (ty := .int) (by decide)
  refine own_go (T17.setTop (mkF m 18 #[.val (.int p0), .val (.int p1), .val (.int p2), .val (.int p3), .val (.int p4), .val (.int p5), .val (.ref b1), .unset, .unset, .unset, .unset, .unset, .unset] [(.ref b17)])) (fun t_ k_ => st17 _ k_) ?_
  refine own_go (T17.setTop (mkF m 19 #[.val (.int p0), .val (.int p1), .val (.int p2), .val (.int p3), .val (.int p4), .val (.int p5), .val (.ref b1), .unset, .unset, .unset, .unset, .unset, .unset] [(.ref b17), (.ref b17)])) (fun t_ k_ => XS.dup X17.here hx rfl (hb hby at_18) rfl rfl k_) ?_
  obtain ⟨_, _, ⟨T18, Lu18, ku18, nu18⟩, -, X18, ⟨Lc18, hQ18, lu18, yu18, zu18⟩, st18⟩ := X17.specialBack hx (y := (⟨"java/util/ArrayList", "<init>", "()V"⟩ : MethodName)) rfl hown (mvT hZ (hw _ (List.mem_of_getElem? (i := 49) rfl))) (mvT hZ (hw _ (List.mem_of_getElem? (i := 50) rfl))) (mvT hZ (hw _ (List.mem_of_getElem? (i := 51) rfl))) (by decide) (backOf (W := 1) (rm_ai0 l Z a0 hw [] (b17) (cs0) (a_EM) (a_DF) (m_A) (m_L) (m_R) h17 O17 w A17 FmodCount_17 Fsize_17 FelementData_17 ge_b17) hZ (hw _ (List.mem_of_getElem? (i := 51) rfl)) (hw _ (List.mem_of_getElem? (i := 48) rfl)) (by decide) (by decide)) (g := (mkF m 19 #[.val (.int p0), .val (.int p1), .val (.int p2), .val (.int p3), .val (.int p4), .val (.int p5), .val (.ref b1), .unset, .unset, .unset, .unset, .unset, .unset] [(.ref b17), (.ref b17)])) rfl (by rw [hml]; rfl) (Steps.refl _) (a := b17) (argsL := []) (rest := [(.ref b17)]) (lenOf own_pd2 rfl) rfl (by show 2 * 0 + _ ≤ _; exact Nat.le_of_eq rfl) (hb hby at_19) (fun _ _ => ⟨rfl, e17, (by decide : 14 + 0 ≤ _), (by decide : 162 + 0 ≤ _)⟩)
  dsimp only [Pt.U, Pt.locs, Pt.cells, Pt.slots] at X18 lu18 yu18 zu18 st18 hQ18
  subst lu18 yu18 zu18
  obtain ⟨rfl, N18q, K18q, X18q, M18q, S18q, D18q⟩ := hQ18
  have N18 := Fr.app N15 N18q
  have O18 := own_extK O17 K18q (allS ge_b17 all0)
  have KK18 : Keep h0 T18.heap [] := K17.trans K18q (allS (Or.inr sz_b17) all0)
  have R18 := R17.trans (CHr.keep K18q (allS Sf17 all0) R17.1)
  refine own_go (T18.setTop (mkF m 22 #[.val (.int p0), .val (.int p1), .val (.int p2), .val (.int p3), .val (.int p4), .val (.int p5), .val (.ref b1), .unset, .unset, .unset, .unset, .unset, .unset] [(.ref b17)])) (fun t_ k_ => st18.trans k_) ?_
  refine own_go (T18.setTop (mkF m 24 #[.val (.int p0), .val (.int p1), .val (.int p2), .val (.int p3), .val (.int p4), .val (.int p5), .val (.ref b1), .val (.ref b17), .unset, .unset, .unset, .unset, .unset] [])) (fun t_ k_ => XS.astore X18.here hx rfl (hb hby at_22) rfl rfl (l' := #[.val (.int p0), .val (.int p1), .val (.int p2), .val (.int p3), .val (.int p4), .val (.int p5), .val (.ref b1), .val (.ref b17), .unset, .unset, .unset, .unset, .unset]) rfl k_) ?_
  refine own_go (T18.setTop (mkF m 25 #[.val (.int p0), .val (.int p1), .val (.int p2), .val (.int p3), .val (.int p4), .val (.int p5), .val (.ref b1), .val (.ref b17), .unset, .unset, .unset, .unset, .unset] [(.int p0)])) (fun t_ k_ => XS.iloadN X18.here hx rfl (hb hby at_24) rfl k_) ?_
  refine own_go (T18.setTop (mkF m 26 #[.val (.int p0), .val (.int p1), .val (.int p2), .val (.int p3), .val (.int p4), .val (.int p5), .val (.ref b1), .val (.ref b17), .unset, .unset, .unset, .unset, .unset] [(.int (1 : Int32)), (.int p0)])) (fun t_ k_ => XS.iconst X18.here hx rfl (hb hby at_25) k_) ?_
  refine own_go (T18.setTop (mkF m 27 #[.val (.int p0), .val (.int p1), .val (.int p2), .val (.int p3), .val (.int p4), .val (.int p5), .val (.ref b1), .val (.ref b17), .unset, .unset, .unset, .unset, .unset] [(.int (p0 &&& (1 : Int32)))])) (fun t_ k_ => XS.iand X18.here hx rfl (hb hby at_26) rfl k_) ?_
  by_cases hc27_19 : (p0 &&& (1 : Int32)) = (0 : Int32)
  ·
    refine own_go (T18.setTop (mkF m 73 #[.val (.int p0), .val (.int p1), .val (.int p2), .val (.int p3), .val (.int p4), .val (.int p5), .val (.ref b1), .val (.ref b17), .unset, .unset, .unset, .unset, .unset] [])) (fun t_ k_ => XS.ifYes X18.here hx rfl (pc0 := 27) (pc' := 73) rfl (hb hby at_27) rfl ((if0 _ _).trans (teq hc27_19).1) (by decide) (by decide) k_) ?_
    refine own_go (T18.setTop (mkF m 74 #[.val (.int p0), .val (.int p1), .val (.int p2), .val (.int p3), .val (.int p4), .val (.int p5), .val (.ref b1), .val (.ref b17), .unset, .unset, .unset, .unset, .unset] [(.int p1)])) (fun t_ k_ => XS.iloadN X18.here hx rfl (hb hby at_73) rfl k_) ?_
    refine own_go (T18.setTop (mkF m 76 #[.val (.int p0), .val (.int p1), .val (.int p2), .val (.int p3), .val (.int p4), .val (.int p5), .val (.ref b1), .val (.ref b17), .unset, .unset, .unset, .unset, .unset] [(.int (2147483647 : Int32)), (.int p1)])) (fun t_ k_ => X18.ldcInt hx hown (mvT hZ (hw _ (List.mem_of_getElem? (i := 70) rfl))) (g := (mkF m 74 #[.val (.int p0), .val (.int p1), .val (.int p2), .val (.int p3), .val (.int p4), .val (.int p5), .val (.ref b1), .val (.ref b17), .unset, .unset, .unset, .unset, .unset] [(.int p1)])) rfl (hb hby at_74) _ k_) ?_
    refine own_go (T18.setTop (mkF m 77 #[.val (.int p0), .val (.int p1), .val (.int p2), .val (.int p3), .val (.int p4), .val (.int p5), .val (.ref b1), .val (.ref b17), .unset, .unset, .unset, .unset, .unset] [(.int (p1 &&& (2147483647 : Int32)))])) (fun t_ k_ => XS.iand X18.here hx rfl (hb hby at_76) rfl k_) ?_
    refine own_go (T18.setTop (mkF m 78 #[.val (.int p0), .val (.int p1), .val (.int p2), .val (.int p3), .val (.int p4), .val (.int p5), .val (.ref b1), .val (.ref b17), .unset, .unset, .unset, .unset, .unset] [(.int (5 : Int32)), (.int (p1 &&& (2147483647 : Int32)))])) (fun t_ k_ => XS.iconst X18.here hx rfl (hb hby at_77) k_) ?_
    refine own_go (T18.setTop (mkF m 79 #[.val (.int p0), .val (.int p1), .val (.int p2), .val (.int p3), .val (.int p4), .val (.int p5), .val (.ref b1), .val (.ref b17), .unset, .unset, .unset, .unset, .unset] [(.int ((p1 &&& (2147483647 : Int32)) % (5 : Int32)))])) (fun t_ k_ => Jvm.RoadKit.iremM X18 hx rfl (hb hby at_78) rfl (by decide) k_) ?_
    rcases own_five p1 with hl0 | hl1 | hl2 | hl3 | hl4
    ·
      rw [hl0]
      refine own_go (T18.setTop (mkF m 81 #[.val (.int p0), .val (.int p1), .val (.int p2), .val (.int p3), .val (.int p4), .val (.int p5), .val (.ref b1), .val (.ref b17), .val (.int (0 : Int32)), .unset, .unset, .unset, .unset] [])) (fun t_ k_ => XS.istore X18.here hx rfl (hb hby at_79) rfl (l' := #[.val (.int p0), .val (.int p1), .val (.int p2), .val (.int p3), .val (.int p4), .val (.int p5), .val (.ref b1), .val (.ref b17), .val (.int (0 : Int32)), .unset, .unset, .unset, .unset]) rfl k_) ?_
      refine own_go (T18.setTop (mkF m 83 #[.val (.int p0), .val (.int p1), .val (.int p2), .val (.int p3), .val (.int p4), .val (.int p5), .val (.ref b1), .val (.ref b17), .val (.int (0 : Int32)), .unset, .unset, .unset, .unset] [(.int (0 : Int32))])) (fun t_ k_ => XS.iload X18.here hx rfl (hb hby at_81) rfl k_) ?_
      obtain ⟨T20, h20, k20, X20, e20, E20, A20, Xa20, st20⟩ := newPE X18 hx hZ (hw _ (List.mem_of_getElem? (i := 6) rfl)) rfl (g := (mkF m 83 #[.val (.int p0), .val (.int p1), .val (.int p2), .val (.int p3), .val (.int p4), .val (.int p5), .val (.ref b1), .val (.ref b17), .val (.int (0 : Int32)), .unset, .unset, .unset, .unset] [(.int (0 : Int32))])) rfl (hb hby at_83) rfl (by decide) (cap := 0) (by decide) (by decide) (by decide) (by decide) (ad := "[B") (by decide)
      obtain ⟨b20, g20⟩ : ∃ z, z = T18.heap.size := ⟨_, rfl⟩
      rw [← g20] at A20 st20 Xa20
      have ge_b20 : Z.heap.size ≤ b20 := Nat.le_trans O18.1 (Nat.le_of_eq g20.symm)
      have sz_b20 : h0.size ≤ b20 := Nat.le_trans KK18.1 (Nat.le_of_eq g20.symm)
      have R20 := R18.trans (CHr.ext E20 R18.1)
      have Sf20 := Safe.ext (x := b20) E20 R18.1 (Safe.new (Nat.le_of_eq g20.symm))
      have K20 : Keep h0 h20 [] := KK18.ext E20
      have O20 := own_ext O18 E20
      have V20 : Arv Z h20 b20 k20 .byte (0 : Int32) [] (.int (0 : Int32)) := (Arv.new A20 (by decide)).pad (pad_rep [] (.int (0 : Int32)) 0)
      refine own_go (T20.setTop (mkF m 85 #[.val (.int p0), .val (.int p1), .val (.int p2), .val (.int p3), .val (.int p4), .val (.int p5), .val (.ref b1), .val (.ref b17), .val (.int (0 : Int32)), .unset, .unset, .unset, .unset] [(.ref b20)])) (fun t_ k_ => st20 _ k_) ?_
      refine own_go (T20.setTop (mkF m 87 #[.val (.int p0), .val (.int p1), .val (.int p2), .val (.int p3), .val (.int p4), .val (.int p5), .val (.ref b1), .val (.ref b17), .val (.int (0 : Int32)), .val (.ref b20), .unset, .unset, .unset] [])) (fun t_ k_ => XS.astore X20.here hx rfl (hb hby at_85) rfl rfl (l' := #[.val (.int p0), .val (.int p1), .val (.int p2), .val (.int p3), .val (.int p4), .val (.int p5), .val (.ref b1), .val (.ref b17), .val (.int (0 : Int32)), .val (.ref b20), .unset, .unset, .unset]) rfl k_) ?_
      refine own_go (T20.setTop (mkF m 89 #[.val (.int p0), .val (.int p1), .val (.int p2), .val (.int p3), .val (.int p4), .val (.int p5), .val (.ref b1), .val (.ref b17), .val (.int (0 : Int32)), .val (.ref b20), .unset, .unset, .unset] [(.ref b20)])) (fun t_ k_ => XS.aload X20.here hx rfl (hb hby at_87) rfl rfl k_) ?_
      refine own_go (T20.setTop (mkF m 90 #[.val (.int p0), .val (.int p1), .val (.int p2), .val (.int p3), .val (.int p4), .val (.int p5), .val (.ref b1), .val (.ref b17), .val (.int (0 : Int32)), .val (.ref b20), .unset, .unset, .unset] [(.int (0 : Int32)), (.ref b20)])) (fun t_ k_ => XS.iconst X20.here hx rfl (hb hby at_89) k_) ?_
      refine own_go (T20.setTop (mkF m 91 #[.val (.int p0), .val (.int p1), .val (.int p2), .val (.int p3), .val (.int p4), .val (.int p5), .val (.ref b1), .val (.ref b17), .val (.int (0 : Int32)), .val (.ref b20), .unset, .unset, .unset] [(.int p2), (.int (0 : Int32)), (.ref b20)])) (fun t_ k_ => XS.iloadN X20.here hx rfl (hb hby at_90) rfl k_) ?_
      obtain ⟨_, _, ⟨T21, Lu21, ku21, nu21⟩, -, X21, ⟨Lc21, hQ21, lu21, yu21, zu21⟩, st21⟩ := Jvm.LawKit.callS X20 hx (y := (⟨"com/example/trailcaster/trailcaster/model/ParticipantObjectQueryPinLaw", "set", "([BII)V"⟩ : MethodName)) hown (mvT hZ (hw _ (List.mem_of_getElem? (i := 71) rfl))) (mvT hZ (hw _ (List.mem_of_getElem? (i := 72) rfl))) (mvT hZ (hw _ (List.mem_of_getElem? (i := 73) rfl))) (mvT hZ (hw _ (List.mem_of_getElem? (i := 74) rfl))) (by decide) (backOf (W := 0) (rm_seto l Z a0 hw [] (b20) (k20) ((0 : Int32)) ([]) ((0 : Int32)) (p2) h20 O20 V20 (by decide)) hZ (hw _ (List.mem_of_getElem? (i := 74) rfl)) (hw _ (List.mem_of_getElem? (i := 73) rfl)) (by decide) (by decide)) (g := (mkF m 91 #[.val (.int p0), .val (.int p1), .val (.int p2), .val (.int p3), .val (.int p4), .val (.int p5), .val (.ref b1), .val (.ref b17), .val (.int (0 : Int32)), .val (.ref b20), .unset, .unset, .unset] [(.int p2), (.int (0 : Int32)), (.ref b20)])) rfl (by rw [hml]; rfl) (argsL := [(.ref b20), (.int (0 : Int32)), (.int p2)]) (rest := []) (lenOf own_pd17 rfl) rfl (by show 2 * 0 + _ ≤ _; exact Nat.le_of_eq rfl) (hb hby at_91) (fun _ _ => ⟨rfl, e20, (by decide : 15 + 0 ≤ _), (by decide : 162 + 0 ≤ _)⟩)
      dsimp only [Pt.U, Pt.locs, Pt.cells, Pt.slots] at X21 lu21 yu21 zu21 st21 hQ21
      subst lu21 yu21 zu21
      obtain ⟨rfl, N21q, e21⟩ := hQ21
      have N21 := Fr.app N18 N21q
      refine own_go (T21.setTop (mkF m 94 #[.val (.int p0), .val (.int p1), .val (.int p2), .val (.int p3), .val (.int p4), .val (.int p5), .val (.ref b1), .val (.ref b17), .val (.int (0 : Int32)), .val (.ref b20), .unset, .unset, .unset] [])) (fun t_ k_ => st21 _ k_) ?_
      refine own_go (T21.setTop (mkF m 96 #[.val (.int p0), .val (.int p1), .val (.int p2), .val (.int p3), .val (.int p4), .val (.int p5), .val (.ref b1), .val (.ref b17), .val (.int (0 : Int32)), .val (.ref b20), .unset, .unset, .unset] [(.ref b20)])) (fun t_ k_ => XS.aload X21.here hx rfl (hb hby at_94) rfl rfl k_) ?_
      refine own_go (T21.setTop (mkF m 97 #[.val (.int p0), .val (.int p1), .val (.int p2), .val (.int p3), .val (.int p4), .val (.int p5), .val (.ref b1), .val (.ref b17), .val (.int (0 : Int32)), .val (.ref b20), .unset, .unset, .unset] [(.int (1 : Int32)), (.ref b20)])) (fun t_ k_ => XS.iconst X21.here hx rfl (hb hby at_96) k_) ?_
      refine own_go (T21.setTop (mkF m 98 #[.val (.int p0), .val (.int p1), .val (.int p2), .val (.int p3), .val (.int p4), .val (.int p5), .val (.ref b1), .val (.ref b17), .val (.int (0 : Int32)), .val (.ref b20), .unset, .unset, .unset] [(.int p3), (.int (1 : Int32)), (.ref b20)])) (fun t_ k_ => XS.iloadN X21.here hx rfl (hb hby at_97) rfl k_) ?_
      obtain ⟨_, _, ⟨T22, Lu22, ku22, nu22⟩, -, X22, ⟨Lc22, hQ22, lu22, yu22, zu22⟩, st22⟩ := Jvm.LawKit.callS X21 hx (y := (⟨"com/example/trailcaster/trailcaster/model/ParticipantObjectQueryPinLaw", "set", "([BII)V"⟩ : MethodName)) hown (mvT hZ (hw _ (List.mem_of_getElem? (i := 71) rfl))) (mvT hZ (hw _ (List.mem_of_getElem? (i := 72) rfl))) (mvT hZ (hw _ (List.mem_of_getElem? (i := 73) rfl))) (mvT hZ (hw _ (List.mem_of_getElem? (i := 74) rfl))) (by decide) (backOf (W := 0) (rm_seto l Z a0 hw [] (b20) (k20) ((0 : Int32)) ([]) ((1 : Int32)) (p3) h20 O20 V20 (by decide)) hZ (hw _ (List.mem_of_getElem? (i := 74) rfl)) (hw _ (List.mem_of_getElem? (i := 73) rfl)) (by decide) (by decide)) (g := (mkF m 98 #[.val (.int p0), .val (.int p1), .val (.int p2), .val (.int p3), .val (.int p4), .val (.int p5), .val (.ref b1), .val (.ref b17), .val (.int (0 : Int32)), .val (.ref b20), .unset, .unset, .unset] [(.int p3), (.int (1 : Int32)), (.ref b20)])) rfl (by rw [hml]; rfl) (argsL := [(.ref b20), (.int (1 : Int32)), (.int p3)]) (rest := []) (lenOf own_pd17 rfl) rfl (by show 2 * 0 + _ ≤ _; exact Nat.le_of_eq rfl) (hb hby at_98) (fun _ _ => ⟨rfl, e21, (by decide : 15 + 0 ≤ _), (by decide : 162 + 0 ≤ _)⟩)
      dsimp only [Pt.U, Pt.locs, Pt.cells, Pt.slots] at X22 lu22 yu22 zu22 st22 hQ22
      subst lu22 yu22 zu22
      obtain ⟨rfl, N22q, e22⟩ := hQ22
      have N22 := Fr.app N21 N22q
      refine own_go (T22.setTop (mkF m 101 #[.val (.int p0), .val (.int p1), .val (.int p2), .val (.int p3), .val (.int p4), .val (.int p5), .val (.ref b1), .val (.ref b17), .val (.int (0 : Int32)), .val (.ref b20), .unset, .unset, .unset] [])) (fun t_ k_ => st22 _ k_) ?_
      refine own_go (T22.setTop (mkF m 103 #[.val (.int p0), .val (.int p1), .val (.int p2), .val (.int p3), .val (.int p4), .val (.int p5), .val (.ref b1), .val (.ref b17), .val (.int (0 : Int32)), .val (.ref b20), .unset, .unset, .unset] [(.ref b20)])) (fun t_ k_ => XS.aload X22.here hx rfl (hb hby at_101) rfl rfl k_) ?_
      refine own_go (T22.setTop (mkF m 104 #[.val (.int p0), .val (.int p1), .val (.int p2), .val (.int p3), .val (.int p4), .val (.int p5), .val (.ref b1), .val (.ref b17), .val (.int (0 : Int32)), .val (.ref b20), .unset, .unset, .unset] [(.int (2 : Int32)), (.ref b20)])) (fun t_ k_ => XS.iconst X22.here hx rfl (hb hby at_103) k_) ?_
      refine own_go (T22.setTop (mkF m 106 #[.val (.int p0), .val (.int p1), .val (.int p2), .val (.int p3), .val (.int p4), .val (.int p5), .val (.ref b1), .val (.ref b17), .val (.int (0 : Int32)), .val (.ref b20), .unset, .unset, .unset] [(.int p4), (.int (2 : Int32)), (.ref b20)])) (fun t_ k_ => XS.iload X22.here hx rfl (hb hby at_104) rfl k_) ?_
      obtain ⟨_, _, ⟨T23, Lu23, ku23, nu23⟩, -, X23, ⟨Lc23, hQ23, lu23, yu23, zu23⟩, st23⟩ := Jvm.LawKit.callS X22 hx (y := (⟨"com/example/trailcaster/trailcaster/model/ParticipantObjectQueryPinLaw", "set", "([BII)V"⟩ : MethodName)) hown (mvT hZ (hw _ (List.mem_of_getElem? (i := 71) rfl))) (mvT hZ (hw _ (List.mem_of_getElem? (i := 72) rfl))) (mvT hZ (hw _ (List.mem_of_getElem? (i := 73) rfl))) (mvT hZ (hw _ (List.mem_of_getElem? (i := 74) rfl))) (by decide) (backOf (W := 0) (rm_seto l Z a0 hw [] (b20) (k20) ((0 : Int32)) ([]) ((2 : Int32)) (p4) h20 O20 V20 (by decide)) hZ (hw _ (List.mem_of_getElem? (i := 74) rfl)) (hw _ (List.mem_of_getElem? (i := 73) rfl)) (by decide) (by decide)) (g := (mkF m 106 #[.val (.int p0), .val (.int p1), .val (.int p2), .val (.int p3), .val (.int p4), .val (.int p5), .val (.ref b1), .val (.ref b17), .val (.int (0 : Int32)), .val (.ref b20), .unset, .unset, .unset] [(.int p4), (.int (2 : Int32)), (.ref b20)])) rfl (by rw [hml]; rfl) (argsL := [(.ref b20), (.int (2 : Int32)), (.int p4)]) (rest := []) (lenOf own_pd17 rfl) rfl (by show 2 * 0 + _ ≤ _; exact Nat.le_of_eq rfl) (hb hby at_106) (fun _ _ => ⟨rfl, e22, (by decide : 15 + 0 ≤ _), (by decide : 162 + 0 ≤ _)⟩)
      dsimp only [Pt.U, Pt.locs, Pt.cells, Pt.slots] at X23 lu23 yu23 zu23 st23 hQ23
      subst lu23 yu23 zu23
      obtain ⟨rfl, N23q, e23⟩ := hQ23
      have N23 := Fr.app N22 N23q
      refine own_go (T23.setTop (mkF m 109 #[.val (.int p0), .val (.int p1), .val (.int p2), .val (.int p3), .val (.int p4), .val (.int p5), .val (.ref b1), .val (.ref b17), .val (.int (0 : Int32)), .val (.ref b20), .unset, .unset, .unset] [])) (fun t_ k_ => st23 _ k_) ?_
      refine own_go (T23.setTop (mkF m 111 #[.val (.int p0), .val (.int p1), .val (.int p2), .val (.int p3), .val (.int p4), .val (.int p5), .val (.ref b1), .val (.ref b17), .val (.int (0 : Int32)), .val (.ref b20), .unset, .unset, .unset] [(.ref b20)])) (fun t_ k_ => XS.aload X23.here hx rfl (hb hby at_109) rfl rfl k_) ?_
      refine own_go (T23.setTop (mkF m 112 #[.val (.int p0), .val (.int p1), .val (.int p2), .val (.int p3), .val (.int p4), .val (.int p5), .val (.ref b1), .val (.ref b17), .val (.int (0 : Int32)), .val (.ref b20), .unset, .unset, .unset] [(.int (3 : Int32)), (.ref b20)])) (fun t_ k_ => XS.iconst X23.here hx rfl (hb hby at_111) k_) ?_
      refine own_go (T23.setTop (mkF m 114 #[.val (.int p0), .val (.int p1), .val (.int p2), .val (.int p3), .val (.int p4), .val (.int p5), .val (.ref b1), .val (.ref b17), .val (.int (0 : Int32)), .val (.ref b20), .unset, .unset, .unset] [(.int p5), (.int (3 : Int32)), (.ref b20)])) (fun t_ k_ => XS.iload X23.here hx rfl (hb hby at_112) rfl k_) ?_
      obtain ⟨_, _, ⟨T24, Lu24, ku24, nu24⟩, -, X24, ⟨Lc24, hQ24, lu24, yu24, zu24⟩, st24⟩ := Jvm.LawKit.callS X23 hx (y := (⟨"com/example/trailcaster/trailcaster/model/ParticipantObjectQueryPinLaw", "set", "([BII)V"⟩ : MethodName)) hown (mvT hZ (hw _ (List.mem_of_getElem? (i := 71) rfl))) (mvT hZ (hw _ (List.mem_of_getElem? (i := 72) rfl))) (mvT hZ (hw _ (List.mem_of_getElem? (i := 73) rfl))) (mvT hZ (hw _ (List.mem_of_getElem? (i := 74) rfl))) (by decide) (backOf (W := 0) (rm_seto l Z a0 hw [] (b20) (k20) ((0 : Int32)) ([]) ((3 : Int32)) (p5) h20 O20 V20 (by decide)) hZ (hw _ (List.mem_of_getElem? (i := 74) rfl)) (hw _ (List.mem_of_getElem? (i := 73) rfl)) (by decide) (by decide)) (g := (mkF m 114 #[.val (.int p0), .val (.int p1), .val (.int p2), .val (.int p3), .val (.int p4), .val (.int p5), .val (.ref b1), .val (.ref b17), .val (.int (0 : Int32)), .val (.ref b20), .unset, .unset, .unset] [(.int p5), (.int (3 : Int32)), (.ref b20)])) rfl (by rw [hml]; rfl) (argsL := [(.ref b20), (.int (3 : Int32)), (.int p5)]) (rest := []) (lenOf own_pd17 rfl) rfl (by show 2 * 0 + _ ≤ _; exact Nat.le_of_eq rfl) (hb hby at_114) (fun _ _ => ⟨rfl, e23, (by decide : 15 + 0 ≤ _), (by decide : 162 + 0 ≤ _)⟩)
      dsimp only [Pt.U, Pt.locs, Pt.cells, Pt.slots] at X24 lu24 yu24 zu24 st24 hQ24
      subst lu24 yu24 zu24
      obtain ⟨rfl, N24q, e24⟩ := hQ24
      have N24 := Fr.app N23 N24q
      refine own_go (T24.setTop (mkF m 117 #[.val (.int p0), .val (.int p1), .val (.int p2), .val (.int p3), .val (.int p4), .val (.int p5), .val (.ref b1), .val (.ref b17), .val (.int (0 : Int32)), .val (.ref b20), .unset, .unset, .unset] [])) (fun t_ k_ => st24 _ k_) ?_
      obtain ⟨T25, h25, X25, e25, E25, A25, D25, U25, st25⟩ := newO X24 hx hZ hown (hw _ (List.mem_of_getElem? (i := 75) rfl)) (hw _ (List.mem_of_getElem? (i := 76) rfl)) (hw _ (List.mem_of_getElem? (i := 77) rfl)) e24 (g := (mkF m 117 #[.val (.int p0), .val (.int p1), .val (.int p2), .val (.int p3), .val (.int p4), .val (.int p5), .val (.ref b1), .val (.ref b17), .val (.int (0 : Int32)), .val (.ref b20), .unset, .unset, .unset] [])) rfl (hb hby at_117) (by decide) (by decide)
      obtain ⟨b25, g25⟩ : ∃ z, z = h20.size := ⟨_, rfl⟩
      rw [← g25] at A25 D25 U25 st25
      have ge_b25 : Z.heap.size ≤ b25 := Nat.le_trans O20.1 (Nat.le_of_eq g25.symm)
      have sz_b25 : h0.size ≤ b25 := Nat.le_trans K20.1 (Nat.le_of_eq g25.symm)
      have R25 := R20.trans (CHr.ext E25 R20.1)
      have Sf25 := Safe.ext (x := b25) E25 R20.1 (Safe.new (Nat.le_of_eq g25.symm))
      have K25 : Keep h0 h25 [] := K20.ext E25
      have O25 := own_ext O20 E25
      have Fid_25 : Fld Z h25 b25 "com/example/trailcaster/trailcaster/model/ParticipantObject" "id" "Ljava/lang/String;" .null := D25 (Or.inr (hw _ (List.mem_of_getElem? (i := 201) rfl))) (ty := (.object "java/lang/String")) (by decide)
      have FtypeCode_25 : Fld Z h25 b25 "com/example/trailcaster/trailcaster/model/ParticipantObject" "typeCode" "Ljava/lang/String;" .null := D25 (Or.inr (hw _ (List.mem_of_getElem? (i := 203) rfl))) (ty := (.object "java/lang/String")) (by decide)
      have FtypeCodeRole_25 : Fld Z h25 b25 "com/example/trailcaster/trailcaster/model/ParticipantObject" "typeCodeRole" "Ljava/lang/String;" .null := D25 (Or.inr (hw _ (List.mem_of_getElem? (i := 205) rfl))) (ty := (.object "java/lang/String")) (by decide)
      have FidTypeCode_25 : Fld Z h25 b25 "com/example/trailcaster/trailcaster/model/ParticipantObject" "idTypeCode" "Lcom/example/trailcaster/trailcaster/model/CodedValue;" .null := D25 (Or.inr (hw _ (List.mem_of_getElem? (i := 207) rfl))) (ty := (.object "com/example/trailcaster/trailcaster/model/CodedValue")) (by decide)
      have Fname_25 : Fld Z h25 b25 "com/example/trailcaster/trailcaster/model/ParticipantObject" "name" "Ljava/lang/String;" .null := D25 (Or.inr (hw _ (List.mem_of_getElem? (i := 209) rfl))) (ty := (.object "java/lang/String")) (by decide)
      have Fquery_25 : Fld Z h25 b25 "com/example/trailcaster/trailcaster/model/ParticipantObject" "query" "[B" .null := D25 (Or.inr (hw _ (List.mem_of_getElem? (i := 211) rfl))) (ty := (.array .byte)) (by decide)
      have Fdetails_25 : Fld Z h25 b25 "com/example/trailcaster/trailcaster/model/ParticipantObject" "details" "Ljava/util/List;" .null := D25 (Or.inr (hw _ (List.mem_of_getElem? (i := 213) rfl))) (ty := (.object "java/util/List")) (by decide)
      have Fdescription_25 : Fld Z h25 b25 "com/example/trailcaster/trailcaster/model/ParticipantObject" "description" "Lcom/example/trailcaster/trailcaster/model/DicomObjectDescription;" .null := D25 (Or.inr (hw _ (List.mem_of_getElem? (i := 215) rfl))) (ty := (.object "com/example/trailcaster/trailcaster/model/DicomObjectDescription")) (by decide)
      refine own_go (T25.setTop (mkF m 120 #[.val (.int p0), .val (.int p1), .val (.int p2), .val (.int p3), .val (.int p4), .val (.int p5), .val (.ref b1), .val (.ref b17), .val (.int (0 : Int32)), .val (.ref b20), .unset, .unset, .unset] [(.ref b25)])) (fun t_ k_ => st25 _ k_) ?_
      refine own_go (T25.setTop (mkF m 121 #[.val (.int p0), .val (.int p1), .val (.int p2), .val (.int p3), .val (.int p4), .val (.int p5), .val (.ref b1), .val (.ref b17), .val (.int (0 : Int32)), .val (.ref b20), .unset, .unset, .unset] [(.ref b25), (.ref b25)])) (fun t_ k_ => XS.dup X25.here hx rfl (hb hby at_120) rfl rfl k_) ?_
      obtain ⟨a26, T26, h26, k26, t26, kb26, X26, e26, E26, hS, hk, hZ, hown, A26, C26, V26, B26, lt26, ltb26, CC26, Li26, ne26, st26⟩ := ldcCH (EL := consts_1) X25 hx hZ hown (hw _ (List.mem_of_getElem? (i := 78) rfl)) (fun d hd => hw d (own_sA d hd)) e25 hS (Nat.le_trans (Nat.le_trans (Nat.le_trans (Nat.le_trans (Nat.le_refl _) E17.1) K18q.1) E20.1) E25.1) hEW (List.mem_of_getElem? (i := 11) rfl) R25.1 (vs := (([105] : List Int32).map (fun c => c.toInt8.toInt32)).map Value.int) (z := 1) (by exact ⟨by decide, by rfl⟩) (by decide) (by rfl) (g := (mkF m 121 #[.val (.int p0), .val (.int p1), .val (.int p2), .val (.int p3), .val (.int p4), .val (.int p5), .val (.ref b1), .val (.ref b17), .val (.int (0 : Int32)), .val (.ref b20), .unset, .unset, .unset] [(.ref b25), (.ref b25)])) rfl (hb hby at_121) (n := 4) (by decide) (by decide) (by decide) (by decide)
      have K26 : Keep h0 h26 [] := K25.ext E26
      have O26 := own_ext O25 E26
      have R26 := R25.trans CC26
      refine own_go (T26.setTop (mkF m 123 #[.val (.int p0), .val (.int p1), .val (.int p2), .val (.int p3), .val (.int p4), .val (.int p5), .val (.ref b1), .val (.ref b17), .val (.int (0 : Int32)), .val (.ref b20), .unset, .unset, .unset] [(.ref a26), (.ref b25), (.ref b25)])) (fun t_ k_ => st26 _ k_) ?_
      obtain ⟨a27, T27, h27, k27, t27, kb27, X27, e27, E27, hS, hk, hZ, hown, A27, C27, V27, B27, lt27, ltb27, CC27, Li27, ne27, st27⟩ := ldcCH (EL := consts_1) X26 hx hZ hown (hw _ (List.mem_of_getElem? (i := 79) rfl)) (fun d hd => hw d (own_sA d hd)) e26 hS hk hEW (List.mem_of_getElem? (i := 12) rfl) R26.1 (vs := (([116] : List Int32).map (fun c => c.toInt8.toInt32)).map Value.int) (z := 1) (by exact ⟨by decide, by rfl⟩) (by decide) (by rfl) (g := (mkF m 123 #[.val (.int p0), .val (.int p1), .val (.int p2), .val (.int p3), .val (.int p4), .val (.int p5), .val (.ref b1), .val (.ref b17), .val (.int (0 : Int32)), .val (.ref b20), .unset, .unset, .unset] [(.ref a26), (.ref b25), (.ref b25)])) rfl (hb hby at_123) (n := 4) (by decide) (by decide) (by decide) (by decide)
      have K27 : Keep h0 h27 [] := K26.ext E27
      have O27 := own_ext O26 E27
      have R27 := R26.trans CC27
      refine own_go (T27.setTop (mkF m 125 #[.val (.int p0), .val (.int p1), .val (.int p2), .val (.int p3), .val (.int p4), .val (.int p5), .val (.ref b1), .val (.ref b17), .val (.int (0 : Int32)), .val (.ref b20), .unset, .unset, .unset] [(.ref a27), (.ref a26), (.ref b25), (.ref b25)])) (fun t_ k_ => st27 _ k_) ?_
      refine own_go (T27.setTop (mkF m 126 #[.val (.int p0), .val (.int p1), .val (.int p2), .val (.int p3), .val (.int p4), .val (.int p5), .val (.ref b1), .val (.ref b17), .val (.int (0 : Int32)), .val (.ref b20), .unset, .unset, .unset] [.null, (.ref a27), (.ref a26), (.ref b25), (.ref b25)])) (fun t_ k_ => XS.aconstNull X27.here hx rfl (hb hby at_125) k_) ?_
      refine own_go (T27.setTop (mkF m 128 #[.val (.int p0), .val (.int p1), .val (.int p2), .val (.int p3), .val (.int p4), .val (.int p5), .val (.ref b1), .val (.ref b17), .val (.int (0 : Int32)), .val (.ref b20), .unset, .unset, .unset] [(.ref b1), .null, (.ref a27), (.ref a26), (.ref b25), (.ref b25)])) (fun t_ k_ => XS.aload X27.here hx rfl (hb hby at_126) rfl rfl k_) ?_
      refine own_go (T27.setTop (mkF m 129 #[.val (.int p0), .val (.int p1), .val (.int p2), .val (.int p3), .val (.int p4), .val (.int p5), .val (.ref b1), .val (.ref b17), .val (.int (0 : Int32)), .val (.ref b20), .unset, .unset, .unset] [.null, (.ref b1), .null, (.ref a27), (.ref a26), (.ref b25), (.ref b25)])) (fun t_ k_ => XS.aconstNull X27.here hx rfl (hb hby at_128) k_) ?_
      refine own_go (T27.setTop (mkF m 131 #[.val (.int p0), .val (.int p1), .val (.int p2), .val (.int p3), .val (.int p4), .val (.int p5), .val (.ref b1), .val (.ref b17), .val (.int (0 : Int32)), .val (.ref b20), .unset, .unset, .unset] [(.ref b20), .null, (.ref b1), .null, (.ref a27), (.ref a26), (.ref b25), (.ref b25)])) (fun t_ k_ => XS.aload X27.here hx rfl (hb hby at_129) rfl rfl k_) ?_
      refine own_go (T27.setTop (mkF m 133 #[.val (.int p0), .val (.int p1), .val (.int p2), .val (.int p3), .val (.int p4), .val (.int p5), .val (.ref b1), .val (.ref b17), .val (.int (0 : Int32)), .val (.ref b20), .unset, .unset, .unset] [(.ref b17), (.ref b20), .null, (.ref b1), .null, (.ref a27), (.ref a26), (.ref b25), (.ref b25)])) (fun t_ k_ => XS.aload X27.here hx rfl (hb hby at_131) rfl rfl k_) ?_
      refine own_go (T27.setTop (mkF m 134 #[.val (.int p0), .val (.int p1), .val (.int p2), .val (.int p3), .val (.int p4), .val (.int p5), .val (.ref b1), .val (.ref b17), .val (.int (0 : Int32)), .val (.ref b20), .unset, .unset, .unset] [.null, (.ref b17), (.ref b20), .null, (.ref b1), .null, (.ref a27), (.ref a26), (.ref b25), (.ref b25)])) (fun t_ k_ => XS.aconstNull X27.here hx rfl (hb hby at_133) k_) ?_
      have Fz28 := ((A25.ext E26).ext E27)
      have Fz29 := ((Fid_25.ext E26).ext E27)
      have Fz30 := ((FtypeCode_25.ext E26).ext E27)
      have Fz31 := ((FtypeCodeRole_25.ext E26).ext E27)
      have Fz32 := ((FidTypeCode_25.ext E26).ext E27)
      have Fz33 := ((Fname_25.ext E26).ext E27)
      have Fz34 := ((Fquery_25.ext E26).ext E27)
      have Fz35 := ((Fdetails_25.ext E26).ext E27)
      have Fz36 := ((Fdescription_25.ext E26).ext E27)
      have Fz37 := ((((X18q.ext E20).ext E25).ext E26).ext E27)
      have Fz38 := ((((M18q.ext E20).ext E25).ext E26).ext E27)
      have Fz39 := ((((S18q.ext E20).ext E25).ext E26).ext E27)
      have Fz40 := (((Xa20.ext E25).ext E26).ext E27)
      have Fz41 := (((V20.ext E25).ext E26).ext E27)
      obtain ⟨_, _, ⟨T42, Lu42, ku42, nu42⟩, -, X42, hS42, hg42, ⟨Lc42, hQ42, lu42, yu42, zu42, C42⟩, st42⟩ := X27.specialBackS hx (y := (⟨"com/example/trailcaster/trailcaster/model/ParticipantObject", "<init>", "(Ljava/lang/String;Ljava/lang/String;Ljava/lang/String;Lcom/example/trailcaster/trailcaster/model/CodedValue;Ljava/lang/String;[BLjava/util/List;Lcom/example/trailcaster/trailcaster/model/DicomObjectDescription;)V"⟩ : MethodName)) rfl hown (mvT hZ (hw _ (List.mem_of_getElem? (i := 80) rfl))) (mvT hZ (hw _ (List.mem_of_getElem? (i := 81) rfl))) (mvT hZ (hw _ (List.mem_of_getElem? (i := 82) rfl))) (by decide) (backOfSH (W := 1) (rm_poB l Z a0 hw [] (b25) (a26) (b1) (b17) (a27) (t27) (kb27) (_) (b20) (k20) ((0 : Int32)) ([]) (cs0) (a_EM) (a_DF) (m_A) (m_L) (m_R) h27 O27 w Fz28 Fz29 Fz30 Fz31 Fz32 Fz33 Fz34 Fz35 Fz36 ge_b25 Fz37 Fz38 Fz39 A27 V27 B27 Fz40 Fz41 (by decide)) hZ (hw _ (List.mem_of_getElem? (i := 82) rfl)) (hw _ (List.mem_of_getElem? (i := 77) rfl)) (by decide) (by decide) hEW R27.1) (g := (mkF m 134 #[.val (.int p0), .val (.int p1), .val (.int p2), .val (.int p3), .val (.int p4), .val (.int p5), .val (.ref b1), .val (.ref b17), .val (.int (0 : Int32)), .val (.ref b20), .unset, .unset, .unset] [.null, (.ref b17), (.ref b20), .null, (.ref b1), .null, (.ref a27), (.ref a26), (.ref b25), (.ref b25)])) rfl (by rw [hml]; rfl) (Steps.refl _) (a := b25) (argsL := [(.ref a26), (.ref a27), .null, (.ref b1), .null, (.ref b20), (.ref b17), .null]) (rest := [(.ref b25)]) (lenOf own_pd18 rfl) rfl (by show 2 * 0 + _ ≤ _; exact Nat.le_of_eq rfl) (hb hby at_134) (fun _ _ => ⟨rfl, e27, (by decide : 20 + 14 ≤ _), (by decide : 186 + 189 ≤ _)⟩)
      dsimp only [Pt.U, Pt.locs, Pt.cells, Pt.slots] at X42 lu42 yu42 zu42 st42 hQ42 hS42 hg42 C42
      subst lu42 yu42 zu42
      obtain ⟨X42, hS, hZ, hown⟩ := rebS hS (by rw [show T27.heap = h27 from e27]; exact hk) X42 hS42 hg42 hZ hown
      have R42 := R27.trans C42
      obtain ⟨r42, rfl, N42q, K42q, u2_42, X42q, F42q, Y42q, A42q⟩ := hQ42
      have N42 := Fr.app N24 N42q
      have O42 := own_extK O27 K42q (allS ge_b25 all0)
      have KK42 : Keep h0 T42.heap [] := K27.trans K42q (allS (Or.inr sz_b25) all0)
      have Fz43 := (CC27.safe (A25.ext E26).lt (CC26.safe A25.lt Sf25))
      refine own_go (T42.setTop (mkF m 137 #[.val (.int p0), .val (.int p1), .val (.int p2), .val (.int p3), .val (.int p4), .val (.int p5), .val (.ref b1), .val (.ref b17), .val (.int (0 : Int32)), .val (.ref b20), .unset, .unset, .unset] [(.ref b25)])) (fun t_ k_ => st42.trans k_) ?_
      refine own_go (T42.setTop (mkF m 139 #[.val (.int p0), .val (.int p1), .val (.int p2), .val (.int p3), .val (.int p4), .val (.int p5), .val (.ref b1), .val (.ref b17), .val (.int (0 : Int32)), .val (.ref b20), .val (.ref b25), .unset, .unset] [])) (fun t_ k_ => XS.astore X42.here hx rfl (hb hby at_137) rfl rfl (l' := #[.val (.int p0), .val (.int p1), .val (.int p2), .val (.int p3), .val (.int p4), .val (.int p5), .val (.ref b1), .val (.ref b17), .val (.int (0 : Int32)), .val (.ref b20), .val (.ref b25), .unset, .unset]) rfl k_) ?_
      refine own_go (T42.setTop (mkF m 141 #[.val (.int p0), .val (.int p1), .val (.int p2), .val (.int p3), .val (.int p4), .val (.int p5), .val (.ref b1), .val (.ref b17), .val (.int (0 : Int32)), .val (.ref b20), .val (.ref b25), .unset, .unset] [(.ref b20)])) (fun t_ k_ => XS.aload X42.here hx rfl (hb hby at_139) rfl rfl k_) ?_
      refine own_go (T42.setTop (mkF m 142 #[.val (.int p0), .val (.int p1), .val (.int p2), .val (.int p3), .val (.int p4), .val (.int p5), .val (.ref b1), .val (.ref b17), .val (.int (0 : Int32)), .val (.ref b20), .val (.ref b25), .unset, .unset] [(.int (0 : Int32)), (.ref b20)])) (fun t_ k_ => XS.iconst X42.here hx rfl (hb hby at_141) k_) ?_
      have Nz44 : b20 ≠ b25 := (Nat.ne_of_lt (Nat.lt_of_lt_of_le Xa20.lt (Nat.le_of_eq g25.symm)))
      have Fz45 := (Fz41.keep K42q (ninS Nz44 nin0))
      obtain ⟨_, _, ⟨T46, Lu46, ku46, nu46⟩, -, X46, ⟨Lc46, hQ46, lu46, yu46, zu46⟩, st46⟩ := Jvm.LawKit.callS X42 hx (y := (⟨"com/example/trailcaster/trailcaster/model/ParticipantObjectQueryPinLaw", "flip", "([BI)V"⟩ : MethodName)) hown (mvT hZ (hw _ (List.mem_of_getElem? (i := 216) rfl))) (mvT hZ (hw _ (List.mem_of_getElem? (i := 217) rfl))) (mvT hZ (hw _ (List.mem_of_getElem? (i := 73) rfl))) (mvT hZ (hw _ (List.mem_of_getElem? (i := 218) rfl))) (by decide) (backOf (W := 0) (rm_flipo l Z a0 hw [] (b20) (k20) ((0 : Int32)) ([]) ((0 : Int32)) T42.heap O42 Fz45 (by decide)) hZ (hw _ (List.mem_of_getElem? (i := 218) rfl)) (hw _ (List.mem_of_getElem? (i := 73) rfl)) (by decide) (by decide)) (g := (mkF m 142 #[.val (.int p0), .val (.int p1), .val (.int p2), .val (.int p3), .val (.int p4), .val (.int p5), .val (.ref b1), .val (.ref b17), .val (.int (0 : Int32)), .val (.ref b20), .val (.ref b25), .unset, .unset] [(.int (0 : Int32)), (.ref b20)])) rfl (by rw [hml]; rfl) (argsL := [(.ref b20), (.int (0 : Int32))]) (rest := []) (lenOf own_pd19 rfl) rfl (by show 2 * 0 + _ ≤ _; exact Nat.le_of_eq rfl) (hb hby at_142) (fun _ _ => ⟨rfl, rfl, (by decide : 34 + 0 ≤ _), (by decide : 375 + 0 ≤ _)⟩)
      dsimp only [Pt.U, Pt.locs, Pt.cells, Pt.slots] at X46 lu46 yu46 zu46 st46 hQ46
      subst lu46 yu46 zu46
      obtain ⟨rfl, N46q, e46⟩ := hQ46
      have N46 := Fr.app N42 N46q
      refine own_go (T46.setTop (mkF m 145 #[.val (.int p0), .val (.int p1), .val (.int p2), .val (.int p3), .val (.int p4), .val (.int p5), .val (.ref b1), .val (.ref b17), .val (.int (0 : Int32)), .val (.ref b20), .val (.ref b25), .unset, .unset] [])) (fun t_ k_ => st46 _ k_) ?_
      refine own_go (T46.setTop (mkF m 147 #[.val (.int p0), .val (.int p1), .val (.int p2), .val (.int p3), .val (.int p4), .val (.int p5), .val (.ref b1), .val (.ref b17), .val (.int (0 : Int32)), .val (.ref b20), .val (.ref b25), .unset, .unset] [(.ref b20)])) (fun t_ k_ => XS.aload X46.here hx rfl (hb hby at_145) rfl rfl k_) ?_
      refine own_go (T46.setTop (mkF m 148 #[.val (.int p0), .val (.int p1), .val (.int p2), .val (.int p3), .val (.int p4), .val (.int p5), .val (.ref b1), .val (.ref b17), .val (.int (0 : Int32)), .val (.ref b20), .val (.ref b25), .unset, .unset] [(.int (1 : Int32)), (.ref b20)])) (fun t_ k_ => XS.iconst X46.here hx rfl (hb hby at_147) k_) ?_
      obtain ⟨_, _, ⟨T47, Lu47, ku47, nu47⟩, -, X47, ⟨Lc47, hQ47, lu47, yu47, zu47⟩, st47⟩ := Jvm.LawKit.callS X46 hx (y := (⟨"com/example/trailcaster/trailcaster/model/ParticipantObjectQueryPinLaw", "flip", "([BI)V"⟩ : MethodName)) hown (mvT hZ (hw _ (List.mem_of_getElem? (i := 216) rfl))) (mvT hZ (hw _ (List.mem_of_getElem? (i := 217) rfl))) (mvT hZ (hw _ (List.mem_of_getElem? (i := 73) rfl))) (mvT hZ (hw _ (List.mem_of_getElem? (i := 218) rfl))) (by decide) (backOf (W := 0) (rm_flipo l Z a0 hw [] (b20) (k20) ((0 : Int32)) ([]) ((1 : Int32)) T42.heap O42 Fz45 (by decide)) hZ (hw _ (List.mem_of_getElem? (i := 218) rfl)) (hw _ (List.mem_of_getElem? (i := 73) rfl)) (by decide) (by decide)) (g := (mkF m 148 #[.val (.int p0), .val (.int p1), .val (.int p2), .val (.int p3), .val (.int p4), .val (.int p5), .val (.ref b1), .val (.ref b17), .val (.int (0 : Int32)), .val (.ref b20), .val (.ref b25), .unset, .unset] [(.int (1 : Int32)), (.ref b20)])) rfl (by rw [hml]; rfl) (argsL := [(.ref b20), (.int (1 : Int32))]) (rest := []) (lenOf own_pd19 rfl) rfl (by show 2 * 0 + _ ≤ _; exact Nat.le_of_eq rfl) (hb hby at_148) (fun _ _ => ⟨rfl, e46, (by decide : 34 + 0 ≤ _), (by decide : 375 + 0 ≤ _)⟩)
      dsimp only [Pt.U, Pt.locs, Pt.cells, Pt.slots] at X47 lu47 yu47 zu47 st47 hQ47
      subst lu47 yu47 zu47
      obtain ⟨rfl, N47q, e47⟩ := hQ47
      have N47 := Fr.app N46 N47q
      refine own_go (T47.setTop (mkF m 151 #[.val (.int p0), .val (.int p1), .val (.int p2), .val (.int p3), .val (.int p4), .val (.int p5), .val (.ref b1), .val (.ref b17), .val (.int (0 : Int32)), .val (.ref b20), .val (.ref b25), .unset, .unset] [])) (fun t_ k_ => st47 _ k_) ?_
      refine own_go (T47.setTop (mkF m 153 #[.val (.int p0), .val (.int p1), .val (.int p2), .val (.int p3), .val (.int p4), .val (.int p5), .val (.ref b1), .val (.ref b17), .val (.int (0 : Int32)), .val (.ref b20), .val (.ref b25), .unset, .unset] [(.ref b20)])) (fun t_ k_ => XS.aload X47.here hx rfl (hb hby at_151) rfl rfl k_) ?_
      refine own_go (T47.setTop (mkF m 154 #[.val (.int p0), .val (.int p1), .val (.int p2), .val (.int p3), .val (.int p4), .val (.int p5), .val (.ref b1), .val (.ref b17), .val (.int (0 : Int32)), .val (.ref b20), .val (.ref b25), .unset, .unset] [(.int (2 : Int32)), (.ref b20)])) (fun t_ k_ => XS.iconst X47.here hx rfl (hb hby at_153) k_) ?_
      obtain ⟨_, _, ⟨T48, Lu48, ku48, nu48⟩, -, X48, ⟨Lc48, hQ48, lu48, yu48, zu48⟩, st48⟩ := Jvm.LawKit.callS X47 hx (y := (⟨"com/example/trailcaster/trailcaster/model/ParticipantObjectQueryPinLaw", "flip", "([BI)V"⟩ : MethodName)) hown (mvT hZ (hw _ (List.mem_of_getElem? (i := 216) rfl))) (mvT hZ (hw _ (List.mem_of_getElem? (i := 217) rfl))) (mvT hZ (hw _ (List.mem_of_getElem? (i := 73) rfl))) (mvT hZ (hw _ (List.mem_of_getElem? (i := 218) rfl))) (by decide) (backOf (W := 0) (rm_flipo l Z a0 hw [] (b20) (k20) ((0 : Int32)) ([]) ((2 : Int32)) T42.heap O42 Fz45 (by decide)) hZ (hw _ (List.mem_of_getElem? (i := 218) rfl)) (hw _ (List.mem_of_getElem? (i := 73) rfl)) (by decide) (by decide)) (g := (mkF m 154 #[.val (.int p0), .val (.int p1), .val (.int p2), .val (.int p3), .val (.int p4), .val (.int p5), .val (.ref b1), .val (.ref b17), .val (.int (0 : Int32)), .val (.ref b20), .val (.ref b25), .unset, .unset] [(.int (2 : Int32)), (.ref b20)])) rfl (by rw [hml]; rfl) (argsL := [(.ref b20), (.int (2 : Int32))]) (rest := []) (lenOf own_pd19 rfl) rfl (by show 2 * 0 + _ ≤ _; exact Nat.le_of_eq rfl) (hb hby at_154) (fun _ _ => ⟨rfl, e47, (by decide : 34 + 0 ≤ _), (by decide : 375 + 0 ≤ _)⟩)
      dsimp only [Pt.U, Pt.locs, Pt.cells, Pt.slots] at X48 lu48 yu48 zu48 st48 hQ48
      subst lu48 yu48 zu48
      obtain ⟨rfl, N48q, e48⟩ := hQ48
      have N48 := Fr.app N47 N48q
      refine own_go (T48.setTop (mkF m 157 #[.val (.int p0), .val (.int p1), .val (.int p2), .val (.int p3), .val (.int p4), .val (.int p5), .val (.ref b1), .val (.ref b17), .val (.int (0 : Int32)), .val (.ref b20), .val (.ref b25), .unset, .unset] [])) (fun t_ k_ => st48 _ k_) ?_
      refine own_go (T48.setTop (mkF m 159 #[.val (.int p0), .val (.int p1), .val (.int p2), .val (.int p3), .val (.int p4), .val (.int p5), .val (.ref b1), .val (.ref b17), .val (.int (0 : Int32)), .val (.ref b20), .val (.ref b25), .unset, .unset] [(.ref b20)])) (fun t_ k_ => XS.aload X48.here hx rfl (hb hby at_157) rfl rfl k_) ?_
      refine own_go (T48.setTop (mkF m 160 #[.val (.int p0), .val (.int p1), .val (.int p2), .val (.int p3), .val (.int p4), .val (.int p5), .val (.ref b1), .val (.ref b17), .val (.int (0 : Int32)), .val (.ref b20), .val (.ref b25), .unset, .unset] [(.int (3 : Int32)), (.ref b20)])) (fun t_ k_ => XS.iconst X48.here hx rfl (hb hby at_159) k_) ?_
      obtain ⟨_, _, ⟨T49, Lu49, ku49, nu49⟩, -, X49, ⟨Lc49, hQ49, lu49, yu49, zu49⟩, st49⟩ := Jvm.LawKit.callS X48 hx (y := (⟨"com/example/trailcaster/trailcaster/model/ParticipantObjectQueryPinLaw", "flip", "([BI)V"⟩ : MethodName)) hown (mvT hZ (hw _ (List.mem_of_getElem? (i := 216) rfl))) (mvT hZ (hw _ (List.mem_of_getElem? (i := 217) rfl))) (mvT hZ (hw _ (List.mem_of_getElem? (i := 73) rfl))) (mvT hZ (hw _ (List.mem_of_getElem? (i := 218) rfl))) (by decide) (backOf (W := 0) (rm_flipo l Z a0 hw [] (b20) (k20) ((0 : Int32)) ([]) ((3 : Int32)) T42.heap O42 Fz45 (by decide)) hZ (hw _ (List.mem_of_getElem? (i := 218) rfl)) (hw _ (List.mem_of_getElem? (i := 73) rfl)) (by decide) (by decide)) (g := (mkF m 160 #[.val (.int p0), .val (.int p1), .val (.int p2), .val (.int p3), .val (.int p4), .val (.int p5), .val (.ref b1), .val (.ref b17), .val (.int (0 : Int32)), .val (.ref b20), .val (.ref b25), .unset, .unset] [(.int (3 : Int32)), (.ref b20)])) rfl (by rw [hml]; rfl) (argsL := [(.ref b20), (.int (3 : Int32))]) (rest := []) (lenOf own_pd19 rfl) rfl (by show 2 * 0 + _ ≤ _; exact Nat.le_of_eq rfl) (hb hby at_160) (fun _ _ => ⟨rfl, e48, (by decide : 34 + 0 ≤ _), (by decide : 375 + 0 ≤ _)⟩)
      dsimp only [Pt.U, Pt.locs, Pt.cells, Pt.slots] at X49 lu49 yu49 zu49 st49 hQ49
      subst lu49 yu49 zu49
      obtain ⟨rfl, N49q, e49⟩ := hQ49
      have N49 := Fr.app N48 N49q
      refine own_go (T49.setTop (mkF m 163 #[.val (.int p0), .val (.int p1), .val (.int p2), .val (.int p3), .val (.int p4), .val (.int p5), .val (.ref b1), .val (.ref b17), .val (.int (0 : Int32)), .val (.ref b20), .val (.ref b25), .unset, .unset] [])) (fun t_ k_ => st49 _ k_) ?_
      refine own_go (T49.setTop (mkF m 165 #[.val (.int p0), .val (.int p1), .val (.int p2), .val (.int p3), .val (.int p4), .val (.int p5), .val (.ref b1), .val (.ref b17), .val (.int (0 : Int32)), .val (.ref b20), .val (.ref b25), .unset, .unset] [(.ref b25)])) (fun t_ k_ => XS.aload X49.here hx rfl (hb hby at_163) rfl rfl k_) ?_
      obtain ⟨cq50, kq50, q50a, q50b, q50c⟩ := isOf hZ e49 X42q
      obtain ⟨_, _, ⟨T50, Lu50, ku50, nu50⟩, -, X50, ⟨Lc50, hQ50, lu50, yu50, zu50⟩, st50⟩ := X49.virtualBack hx (y := (⟨"com/example/trailcaster/trailcaster/model/ParticipantObject", "query", "()[B"⟩ : MethodName)) (z := (⟨"com/example/trailcaster/trailcaster/model/ParticipantObject", "query", "()[B"⟩ : MethodName)) hown (mvT hZ (hw _ (List.mem_of_getElem? (i := 219) rfl))) (mvT hZ (hw _ (List.mem_of_getElem? (i := 220) rfl))) (notFace_of_selects (args := #[]) (mvT hZ (hw _ (List.mem_of_getElem? (i := 222) rfl)))) (mvT hZ (hw _ (List.mem_of_getElem? (i := 222) rfl))) (mvT hZ (hw _ (List.mem_of_getElem? (i := 221) rfl))) (by decide) (backOf (W := 0) (rm_qyB l Z a0 hw [] (b25) (r42) (k20) ((0 : Int32)) ([]) T42.heap O42 F42q Y42q A42q (by decide)) hZ (hw _ (List.mem_of_getElem? (i := 223) rfl)) (hw _ (List.mem_of_getElem? (i := 77) rfl)) (by decide) (by decide)) q50a q50c (g := (mkF m 165 #[.val (.int p0), .val (.int p1), .val (.int p2), .val (.int p3), .val (.int p4), .val (.int p5), .val (.ref b1), .val (.ref b17), .val (.int (0 : Int32)), .val (.ref b20), .val (.ref b25), .unset, .unset] [(.ref b25)])) rfl (by rw [hml]; rfl) (Steps.refl _) (argsL := []) (rest := []) (lenOf own_pd20 rfl) rfl (by show 2 * 0 + _ ≤ _; exact Nat.le_of_eq rfl) (hb hby at_165) (fun _ _ => ⟨rfl, e49, (by decide : 34 + 1 ≤ _), (by decide : 375 + 4 ≤ _)⟩)
      dsimp only [Pt.U, Pt.locs, Pt.cells, Pt.slots] at X50 lu50 yu50 zu50 st50 hQ50
      subst lu50 yu50 zu50
      obtain ⟨r50, rfl, N50q, K50q, u2_50, A50q⟩ := hQ50
      have N50 := Fr.app N49 N50q
      have Sn50 := own_snew R42.1 u2_50
      have O50 := own_extK O42 K50q all0
      have KK50 : Keep h0 T50.heap [] := KK42.trans K50q all0
      have R50 := R42.trans (CHr.keep K50q all0 R42.1)
      refine own_go (T50.setTop (mkF m 168 #[.val (.int p0), .val (.int p1), .val (.int p2), .val (.int p3), .val (.int p4), .val (.int p5), .val (.ref b1), .val (.ref b17), .val (.int (0 : Int32)), .val (.ref b20), .val (.ref b25), .unset, .unset] [(.ref r50)])) (fun t_ k_ => st50.trans k_) ?_
      refine own_go (T50.setTop (mkF m 170 #[.val (.int p0), .val (.int p1), .val (.int p2), .val (.int p3), .val (.int p4), .val (.int p5), .val (.ref b1), .val (.ref b17), .val (.int (0 : Int32)), .val (.ref b20), .val (.ref b25), .val (.ref r50), .unset] [])) (fun t_ k_ => XS.astore X50.here hx rfl (hb hby at_168) rfl rfl (l' := #[.val (.int p0), .val (.int p1), .val (.int p2), .val (.int p3), .val (.int p4), .val (.int p5), .val (.ref b1), .val (.ref b17), .val (.int (0 : Int32)), .val (.ref b20), .val (.ref b25), .val (.ref r50), .unset]) rfl k_) ?_
      refine own_go (T50.setTop (mkF m 172 #[.val (.int p0), .val (.int p1), .val (.int p2), .val (.int p3), .val (.int p4), .val (.int p5), .val (.ref b1), .val (.ref b17), .val (.int (0 : Int32)), .val (.ref b20), .val (.ref b25), .val (.ref r50), .unset] [(.ref r50)])) (fun t_ k_ => XS.aload X50.here hx rfl (hb hby at_170) rfl rfl k_) ?_
      refine own_go (T50.setTop (mkF m 175 #[.val (.int p0), .val (.int p1), .val (.int p2), .val (.int p3), .val (.int p4), .val (.int p5), .val (.ref b1), .val (.ref b17), .val (.int (0 : Int32)), .val (.ref b20), .val (.ref b25), .val (.ref r50), .unset] [])) (fun t_ k_ => XS.ifnullNo X50.here hx rfl (hb hby at_172) rfl k_) ?_
      refine own_go (T50.setTop (mkF m 177 #[.val (.int p0), .val (.int p1), .val (.int p2), .val (.int p3), .val (.int p4), .val (.int p5), .val (.ref b1), .val (.ref b17), .val (.int (0 : Int32)), .val (.ref b20), .val (.ref b25), .val (.ref r50), .unset] [(.ref r50)])) (fun t_ k_ => XS.aload X50.here hx rfl (hb hby at_175) rfl rfl k_) ?_
      refine own_go (T50.setTop (mkF m 179 #[.val (.int p0), .val (.int p1), .val (.int p2), .val (.int p3), .val (.int p4), .val (.int p5), .val (.ref b1), .val (.ref b17), .val (.int (0 : Int32)), .val (.ref b20), .val (.ref b25), .val (.ref r50), .unset] [(.int (0 : Int32)), (.ref r50)])) (fun t_ k_ => XS.iload X50.here hx rfl (hb hby at_177) rfl k_) ?_
      refine own_go (T50.setTop (mkF m 180 #[.val (.int p0), .val (.int p1), .val (.int p2), .val (.int p3), .val (.int p4), .val (.int p5), .val (.ref b1), .val (.ref b17), .val (.int (0 : Int32)), .val (.ref b20), .val (.ref b25), .val (.ref r50), .unset] [(.int p2), (.int (0 : Int32)), (.ref r50)])) (fun t_ k_ => XS.iloadN X50.here hx rfl (hb hby at_179) rfl k_) ?_
      refine own_go (T50.setTop (mkF m 181 #[.val (.int p0), .val (.int p1), .val (.int p2), .val (.int p3), .val (.int p4), .val (.int p5), .val (.ref b1), .val (.ref b17), .val (.int (0 : Int32)), .val (.ref b20), .val (.ref b25), .val (.ref r50), .unset] [(.int p3), (.int p2), (.int (0 : Int32)), (.ref r50)])) (fun t_ k_ => XS.iloadN X50.here hx rfl (hb hby at_180) rfl k_) ?_
      refine own_go (T50.setTop (mkF m 183 #[.val (.int p0), .val (.int p1), .val (.int p2), .val (.int p3), .val (.int p4), .val (.int p5), .val (.ref b1), .val (.ref b17), .val (.int (0 : Int32)), .val (.ref b20), .val (.ref b25), .val (.ref r50), .unset] [(.int p4), (.int p3), (.int p2), (.int (0 : Int32)), (.ref r50)])) (fun t_ k_ => XS.iload X50.here hx rfl (hb hby at_181) rfl k_) ?_
      refine own_go (T50.setTop (mkF m 185 #[.val (.int p0), .val (.int p1), .val (.int p2), .val (.int p3), .val (.int p4), .val (.int p5), .val (.ref b1), .val (.ref b17), .val (.int (0 : Int32)), .val (.ref b20), .val (.ref b25), .val (.ref r50), .unset] [(.int p5), (.int p4), (.int p3), (.int p2), (.int (0 : Int32)), (.ref r50)])) (fun t_ k_ => XS.iload X50.here hx rfl (hb hby at_183) rfl k_) ?_
      obtain ⟨_, _, ⟨T51, Lu51, ku51, nu51⟩, -, X51, ⟨Lc51, hQ51, lu51, yu51, zu51⟩, st51⟩ := Jvm.LawKit.callS X50 hx (y := (⟨"com/example/trailcaster/trailcaster/model/ParticipantObjectQueryPinLaw", "same", "([BIIIII)Z"⟩ : MethodName)) hown (mvT hZ (hw _ (List.mem_of_getElem? (i := 224) rfl))) (mvT hZ (hw _ (List.mem_of_getElem? (i := 225) rfl))) (mvT hZ (hw _ (List.mem_of_getElem? (i := 73) rfl))) (mvT hZ (hw _ (List.mem_of_getElem? (i := 226) rfl))) (by decide) (backOf (W := 0) (rm_same0 l Z a0 hw [] (r50) (k20) (p2) (p3) (p4) (p5) T50.heap O50 A50q) hZ (hw _ (List.mem_of_getElem? (i := 226) rfl)) (hw _ (List.mem_of_getElem? (i := 73) rfl)) (by decide) (by decide)) (g := (mkF m 185 #[.val (.int p0), .val (.int p1), .val (.int p2), .val (.int p3), .val (.int p4), .val (.int p5), .val (.ref b1), .val (.ref b17), .val (.int (0 : Int32)), .val (.ref b20), .val (.ref b25), .val (.ref r50), .unset] [(.int p5), (.int p4), (.int p3), (.int p2), (.int (0 : Int32)), (.ref r50)])) rfl (by rw [hml]; rfl) (argsL := [(.ref r50), (.int (0 : Int32)), (.int p2), (.int p3), (.int p4), (.int p5)]) (rest := []) (lenOf own_pd21 rfl) rfl (by show 2 * 0 + _ ≤ _; exact Nat.le_of_eq rfl) (hb hby at_185) (fun _ _ => ⟨rfl, rfl, (by decide : 35 + 0 ≤ _), (by decide : 379 + 0 ≤ _)⟩)
      dsimp only [Pt.U, Pt.locs, Pt.cells, Pt.slots] at X51 lu51 yu51 zu51 st51 hQ51
      subst lu51 yu51 zu51
      obtain ⟨rfl, N51q, e51⟩ := hQ51
      have N51 := Fr.app N50 N51q
      refine own_go (T51.setTop (mkF m 188 #[.val (.int p0), .val (.int p1), .val (.int p2), .val (.int p3), .val (.int p4), .val (.int p5), .val (.ref b1), .val (.ref b17), .val (.int (0 : Int32)), .val (.ref b20), .val (.ref b25), .val (.ref r50), .unset] [(.int (1 : Int32))])) (fun t_ k_ => st51 _ k_) ?_
      refine own_go (T51.setTop (mkF m 193 #[.val (.int p0), .val (.int p1), .val (.int p2), .val (.int p3), .val (.int p4), .val (.int p5), .val (.ref b1), .val (.ref b17), .val (.int (0 : Int32)), .val (.ref b20), .val (.ref b25), .val (.ref r50), .unset] [])) (fun t_ k_ => XS.ifYes X51.here hx rfl (pc0 := 188) (pc' := 193) rfl (hb hby at_188) rfl ((if0 _ _).trans (feq (by decide : ¬ ((1 : Int32) = (0 : Int32)))).2) (by decide) (by decide) k_) ?_
      refine own_go (T51.setTop (mkF m 195 #[.val (.int p0), .val (.int p1), .val (.int p2), .val (.int p3), .val (.int p4), .val (.int p5), .val (.ref b1), .val (.ref b17), .val (.int (0 : Int32)), .val (.ref b20), .val (.ref b25), .val (.ref r50), .unset] [(.ref r50)])) (fun t_ k_ => XS.aload X51.here hx rfl (hb hby at_193) rfl rfl k_) ?_
      refine own_go (T51.setTop (mkF m 196 #[.val (.int p0), .val (.int p1), .val (.int p2), .val (.int p3), .val (.int p4), .val (.int p5), .val (.ref b1), .val (.ref b17), .val (.int (0 : Int32)), .val (.ref b20), .val (.ref b25), .val (.ref r50), .unset] [(.int (0 : Int32)), (.ref r50)])) (fun t_ k_ => XS.iconst X51.here hx rfl (hb hby at_195) k_) ?_
      obtain ⟨_, _, ⟨T52, Lu52, ku52, nu52⟩, -, X52, ⟨Lc52, hQ52, lu52, yu52, zu52⟩, st52⟩ := Jvm.LawKit.callS X51 hx (y := (⟨"com/example/trailcaster/trailcaster/model/ParticipantObjectQueryPinLaw", "flip", "([BI)V"⟩ : MethodName)) hown (mvT hZ (hw _ (List.mem_of_getElem? (i := 216) rfl))) (mvT hZ (hw _ (List.mem_of_getElem? (i := 217) rfl))) (mvT hZ (hw _ (List.mem_of_getElem? (i := 73) rfl))) (mvT hZ (hw _ (List.mem_of_getElem? (i := 218) rfl))) (by decide) (backOf (W := 0) (rm_flipo l Z a0 hw [] (r50) (k20) ((0 : Int32)) ([]) ((0 : Int32)) T50.heap O50 A50q (by decide)) hZ (hw _ (List.mem_of_getElem? (i := 218) rfl)) (hw _ (List.mem_of_getElem? (i := 73) rfl)) (by decide) (by decide)) (g := (mkF m 196 #[.val (.int p0), .val (.int p1), .val (.int p2), .val (.int p3), .val (.int p4), .val (.int p5), .val (.ref b1), .val (.ref b17), .val (.int (0 : Int32)), .val (.ref b20), .val (.ref b25), .val (.ref r50), .unset] [(.int (0 : Int32)), (.ref r50)])) rfl (by rw [hml]; rfl) (argsL := [(.ref r50), (.int (0 : Int32))]) (rest := []) (lenOf own_pd19 rfl) rfl (by show 2 * 0 + _ ≤ _; exact Nat.le_of_eq rfl) (hb hby at_196) (fun _ _ => ⟨rfl, e51, (by decide : 35 + 0 ≤ _), (by decide : 379 + 0 ≤ _)⟩)
      dsimp only [Pt.U, Pt.locs, Pt.cells, Pt.slots] at X52 lu52 yu52 zu52 st52 hQ52
      subst lu52 yu52 zu52
      obtain ⟨rfl, N52q, e52⟩ := hQ52
      have N52 := Fr.app N51 N52q
      refine own_go (T52.setTop (mkF m 199 #[.val (.int p0), .val (.int p1), .val (.int p2), .val (.int p3), .val (.int p4), .val (.int p5), .val (.ref b1), .val (.ref b17), .val (.int (0 : Int32)), .val (.ref b20), .val (.ref b25), .val (.ref r50), .unset] [])) (fun t_ k_ => st52 _ k_) ?_
      refine own_go (T52.setTop (mkF m 201 #[.val (.int p0), .val (.int p1), .val (.int p2), .val (.int p3), .val (.int p4), .val (.int p5), .val (.ref b1), .val (.ref b17), .val (.int (0 : Int32)), .val (.ref b20), .val (.ref b25), .val (.ref r50), .unset] [(.ref r50)])) (fun t_ k_ => XS.aload X52.here hx rfl (hb hby at_199) rfl rfl k_) ?_
      refine own_go (T52.setTop (mkF m 202 #[.val (.int p0), .val (.int p1), .val (.int p2), .val (.int p3), .val (.int p4), .val (.int p5), .val (.ref b1), .val (.ref b17), .val (.int (0 : Int32)), .val (.ref b20), .val (.ref b25), .val (.ref r50), .unset] [(.int (1 : Int32)), (.ref r50)])) (fun t_ k_ => XS.iconst X52.here hx rfl (hb hby at_201) k_) ?_
      obtain ⟨_, _, ⟨T53, Lu53, ku53, nu53⟩, -, X53, ⟨Lc53, hQ53, lu53, yu53, zu53⟩, st53⟩ := Jvm.LawKit.callS X52 hx (y := (⟨"com/example/trailcaster/trailcaster/model/ParticipantObjectQueryPinLaw", "flip", "([BI)V"⟩ : MethodName)) hown (mvT hZ (hw _ (List.mem_of_getElem? (i := 216) rfl))) (mvT hZ (hw _ (List.mem_of_getElem? (i := 217) rfl))) (mvT hZ (hw _ (List.mem_of_getElem? (i := 73) rfl))) (mvT hZ (hw _ (List.mem_of_getElem? (i := 218) rfl))) (by decide) (backOf (W := 0) (rm_flipo l Z a0 hw [] (r50) (k20) ((0 : Int32)) ([]) ((1 : Int32)) T50.heap O50 A50q (by decide)) hZ (hw _ (List.mem_of_getElem? (i := 218) rfl)) (hw _ (List.mem_of_getElem? (i := 73) rfl)) (by decide) (by decide)) (g := (mkF m 202 #[.val (.int p0), .val (.int p1), .val (.int p2), .val (.int p3), .val (.int p4), .val (.int p5), .val (.ref b1), .val (.ref b17), .val (.int (0 : Int32)), .val (.ref b20), .val (.ref b25), .val (.ref r50), .unset] [(.int (1 : Int32)), (.ref r50)])) rfl (by rw [hml]; rfl) (argsL := [(.ref r50), (.int (1 : Int32))]) (rest := []) (lenOf own_pd19 rfl) rfl (by show 2 * 0 + _ ≤ _; exact Nat.le_of_eq rfl) (hb hby at_202) (fun _ _ => ⟨rfl, e52, (by decide : 35 + 0 ≤ _), (by decide : 379 + 0 ≤ _)⟩)
      dsimp only [Pt.U, Pt.locs, Pt.cells, Pt.slots] at X53 lu53 yu53 zu53 st53 hQ53
      subst lu53 yu53 zu53
      obtain ⟨rfl, N53q, e53⟩ := hQ53
      have N53 := Fr.app N52 N53q
      refine own_go (T53.setTop (mkF m 205 #[.val (.int p0), .val (.int p1), .val (.int p2), .val (.int p3), .val (.int p4), .val (.int p5), .val (.ref b1), .val (.ref b17), .val (.int (0 : Int32)), .val (.ref b20), .val (.ref b25), .val (.ref r50), .unset] [])) (fun t_ k_ => st53 _ k_) ?_
      refine own_go (T53.setTop (mkF m 207 #[.val (.int p0), .val (.int p1), .val (.int p2), .val (.int p3), .val (.int p4), .val (.int p5), .val (.ref b1), .val (.ref b17), .val (.int (0 : Int32)), .val (.ref b20), .val (.ref b25), .val (.ref r50), .unset] [(.ref r50)])) (fun t_ k_ => XS.aload X53.here hx rfl (hb hby at_205) rfl rfl k_) ?_
      refine own_go (T53.setTop (mkF m 208 #[.val (.int p0), .val (.int p1), .val (.int p2), .val (.int p3), .val (.int p4), .val (.int p5), .val (.ref b1), .val (.ref b17), .val (.int (0 : Int32)), .val (.ref b20), .val (.ref b25), .val (.ref r50), .unset] [(.int (2 : Int32)), (.ref r50)])) (fun t_ k_ => XS.iconst X53.here hx rfl (hb hby at_207) k_) ?_
      obtain ⟨_, _, ⟨T54, Lu54, ku54, nu54⟩, -, X54, ⟨Lc54, hQ54, lu54, yu54, zu54⟩, st54⟩ := Jvm.LawKit.callS X53 hx (y := (⟨"com/example/trailcaster/trailcaster/model/ParticipantObjectQueryPinLaw", "flip", "([BI)V"⟩ : MethodName)) hown (mvT hZ (hw _ (List.mem_of_getElem? (i := 216) rfl))) (mvT hZ (hw _ (List.mem_of_getElem? (i := 217) rfl))) (mvT hZ (hw _ (List.mem_of_getElem? (i := 73) rfl))) (mvT hZ (hw _ (List.mem_of_getElem? (i := 218) rfl))) (by decide) (backOf (W := 0) (rm_flipo l Z a0 hw [] (r50) (k20) ((0 : Int32)) ([]) ((2 : Int32)) T50.heap O50 A50q (by decide)) hZ (hw _ (List.mem_of_getElem? (i := 218) rfl)) (hw _ (List.mem_of_getElem? (i := 73) rfl)) (by decide) (by decide)) (g := (mkF m 208 #[.val (.int p0), .val (.int p1), .val (.int p2), .val (.int p3), .val (.int p4), .val (.int p5), .val (.ref b1), .val (.ref b17), .val (.int (0 : Int32)), .val (.ref b20), .val (.ref b25), .val (.ref r50), .unset] [(.int (2 : Int32)), (.ref r50)])) rfl (by rw [hml]; rfl) (argsL := [(.ref r50), (.int (2 : Int32))]) (rest := []) (lenOf own_pd19 rfl) rfl (by show 2 * 0 + _ ≤ _; exact Nat.le_of_eq rfl) (hb hby at_208) (fun _ _ => ⟨rfl, e53, (by decide : 35 + 0 ≤ _), (by decide : 379 + 0 ≤ _)⟩)
      dsimp only [Pt.U, Pt.locs, Pt.cells, Pt.slots] at X54 lu54 yu54 zu54 st54 hQ54
      subst lu54 yu54 zu54
      obtain ⟨rfl, N54q, e54⟩ := hQ54
      have N54 := Fr.app N53 N54q
      refine own_go (T54.setTop (mkF m 211 #[.val (.int p0), .val (.int p1), .val (.int p2), .val (.int p3), .val (.int p4), .val (.int p5), .val (.ref b1), .val (.ref b17), .val (.int (0 : Int32)), .val (.ref b20), .val (.ref b25), .val (.ref r50), .unset] [])) (fun t_ k_ => st54 _ k_) ?_
      refine own_go (T54.setTop (mkF m 213 #[.val (.int p0), .val (.int p1), .val (.int p2), .val (.int p3), .val (.int p4), .val (.int p5), .val (.ref b1), .val (.ref b17), .val (.int (0 : Int32)), .val (.ref b20), .val (.ref b25), .val (.ref r50), .unset] [(.ref r50)])) (fun t_ k_ => XS.aload X54.here hx rfl (hb hby at_211) rfl rfl k_) ?_
      refine own_go (T54.setTop (mkF m 214 #[.val (.int p0), .val (.int p1), .val (.int p2), .val (.int p3), .val (.int p4), .val (.int p5), .val (.ref b1), .val (.ref b17), .val (.int (0 : Int32)), .val (.ref b20), .val (.ref b25), .val (.ref r50), .unset] [(.int (3 : Int32)), (.ref r50)])) (fun t_ k_ => XS.iconst X54.here hx rfl (hb hby at_213) k_) ?_
      obtain ⟨_, _, ⟨T55, Lu55, ku55, nu55⟩, -, X55, ⟨Lc55, hQ55, lu55, yu55, zu55⟩, st55⟩ := Jvm.LawKit.callS X54 hx (y := (⟨"com/example/trailcaster/trailcaster/model/ParticipantObjectQueryPinLaw", "flip", "([BI)V"⟩ : MethodName)) hown (mvT hZ (hw _ (List.mem_of_getElem? (i := 216) rfl))) (mvT hZ (hw _ (List.mem_of_getElem? (i := 217) rfl))) (mvT hZ (hw _ (List.mem_of_getElem? (i := 73) rfl))) (mvT hZ (hw _ (List.mem_of_getElem? (i := 218) rfl))) (by decide) (backOf (W := 0) (rm_flipo l Z a0 hw [] (r50) (k20) ((0 : Int32)) ([]) ((3 : Int32)) T50.heap O50 A50q (by decide)) hZ (hw _ (List.mem_of_getElem? (i := 218) rfl)) (hw _ (List.mem_of_getElem? (i := 73) rfl)) (by decide) (by decide)) (g := (mkF m 214 #[.val (.int p0), .val (.int p1), .val (.int p2), .val (.int p3), .val (.int p4), .val (.int p5), .val (.ref b1), .val (.ref b17), .val (.int (0 : Int32)), .val (.ref b20), .val (.ref b25), .val (.ref r50), .unset] [(.int (3 : Int32)), (.ref r50)])) rfl (by rw [hml]; rfl) (argsL := [(.ref r50), (.int (3 : Int32))]) (rest := []) (lenOf own_pd19 rfl) rfl (by show 2 * 0 + _ ≤ _; exact Nat.le_of_eq rfl) (hb hby at_214) (fun _ _ => ⟨rfl, e54, (by decide : 35 + 0 ≤ _), (by decide : 379 + 0 ≤ _)⟩)
      dsimp only [Pt.U, Pt.locs, Pt.cells, Pt.slots] at X55 lu55 yu55 zu55 st55 hQ55
      subst lu55 yu55 zu55
      obtain ⟨rfl, N55q, e55⟩ := hQ55
      have N55 := Fr.app N54 N55q
      refine own_go (T55.setTop (mkF m 217 #[.val (.int p0), .val (.int p1), .val (.int p2), .val (.int p3), .val (.int p4), .val (.int p5), .val (.ref b1), .val (.ref b17), .val (.int (0 : Int32)), .val (.ref b20), .val (.ref b25), .val (.ref r50), .unset] [])) (fun t_ k_ => st55 _ k_) ?_
      refine own_go (T55.setTop (mkF m 219 #[.val (.int p0), .val (.int p1), .val (.int p2), .val (.int p3), .val (.int p4), .val (.int p5), .val (.ref b1), .val (.ref b17), .val (.int (0 : Int32)), .val (.ref b20), .val (.ref b25), .val (.ref r50), .unset] [(.ref b25)])) (fun t_ k_ => XS.aload X55.here hx rfl (hb hby at_217) rfl rfl k_) ?_
      have Fz56 := (F42q.keep K50q nin0)
      have Fz57 := (Y42q.keep K50q)
      have Fz58 := (A42q.keep K50q nin0)
      have Fz60 := (X42q.keep K50q)
      obtain ⟨cq59, kq59, q59a, q59b, q59c⟩ := isOf hZ e55 Fz60
      obtain ⟨_, _, ⟨T59, Lu59, ku59, nu59⟩, -, X59, ⟨Lc59, hQ59, lu59, yu59, zu59⟩, st59⟩ := X55.virtualBack hx (y := (⟨"com/example/trailcaster/trailcaster/model/ParticipantObject", "query", "()[B"⟩ : MethodName)) (z := (⟨"com/example/trailcaster/trailcaster/model/ParticipantObject", "query", "()[B"⟩ : MethodName)) hown (mvT hZ (hw _ (List.mem_of_getElem? (i := 219) rfl))) (mvT hZ (hw _ (List.mem_of_getElem? (i := 220) rfl))) (notFace_of_selects (args := #[]) (mvT hZ (hw _ (List.mem_of_getElem? (i := 222) rfl)))) (mvT hZ (hw _ (List.mem_of_getElem? (i := 222) rfl))) (mvT hZ (hw _ (List.mem_of_getElem? (i := 221) rfl))) (by decide) (backOf (W := 0) (rm_qyB l Z a0 hw [] (b25) (r42) (k20) ((0 : Int32)) ([]) T50.heap O50 Fz56 Fz57 Fz58 (by decide)) hZ (hw _ (List.mem_of_getElem? (i := 223) rfl)) (hw _ (List.mem_of_getElem? (i := 77) rfl)) (by decide) (by decide)) q59a q59c (g := (mkF m 219 #[.val (.int p0), .val (.int p1), .val (.int p2), .val (.int p3), .val (.int p4), .val (.int p5), .val (.ref b1), .val (.ref b17), .val (.int (0 : Int32)), .val (.ref b20), .val (.ref b25), .val (.ref r50), .unset] [(.ref b25)])) rfl (by rw [hml]; rfl) (Steps.refl _) (argsL := []) (rest := []) (lenOf own_pd20 rfl) rfl (by show 2 * 0 + _ ≤ _; exact Nat.le_of_eq rfl) (hb hby at_219) (fun _ _ => ⟨rfl, e55, (by decide : 35 + 1 ≤ _), (by decide : 379 + 4 ≤ _)⟩)
      dsimp only [Pt.U, Pt.locs, Pt.cells, Pt.slots] at X59 lu59 yu59 zu59 st59 hQ59
      subst lu59 yu59 zu59
      obtain ⟨r59, rfl, N59q, K59q, u2_59, A59q⟩ := hQ59
      have N59 := Fr.app N55 N59q
      have Sn59 := own_snew R50.1 u2_59
      have O59 := own_extK O50 K59q all0
      have KK59 : Keep h0 T59.heap [] := KK50.trans K59q all0
      have R59 := R50.trans (CHr.keep K59q all0 R50.1)
      refine own_go (T59.setTop (mkF m 222 #[.val (.int p0), .val (.int p1), .val (.int p2), .val (.int p3), .val (.int p4), .val (.int p5), .val (.ref b1), .val (.ref b17), .val (.int (0 : Int32)), .val (.ref b20), .val (.ref b25), .val (.ref r50), .unset] [(.ref r59)])) (fun t_ k_ => st59.trans k_) ?_
      refine own_go (T59.setTop (mkF m 224 #[.val (.int p0), .val (.int p1), .val (.int p2), .val (.int p3), .val (.int p4), .val (.int p5), .val (.ref b1), .val (.ref b17), .val (.int (0 : Int32)), .val (.ref b20), .val (.ref b25), .val (.ref r50), .val (.ref r59)] [])) (fun t_ k_ => XS.astore X59.here hx rfl (hb hby at_222) rfl rfl (l' := #[.val (.int p0), .val (.int p1), .val (.int p2), .val (.int p3), .val (.int p4), .val (.int p5), .val (.ref b1), .val (.ref b17), .val (.int (0 : Int32)), .val (.ref b20), .val (.ref b25), .val (.ref r50), .val (.ref r59)]) rfl k_) ?_
      refine own_go (T59.setTop (mkF m 226 #[.val (.int p0), .val (.int p1), .val (.int p2), .val (.int p3), .val (.int p4), .val (.int p5), .val (.ref b1), .val (.ref b17), .val (.int (0 : Int32)), .val (.ref b20), .val (.ref b25), .val (.ref r50), .val (.ref r59)] [(.ref r59)])) (fun t_ k_ => XS.aload X59.here hx rfl (hb hby at_224) rfl rfl k_) ?_
      refine own_go (T59.setTop (mkF m 229 #[.val (.int p0), .val (.int p1), .val (.int p2), .val (.int p3), .val (.int p4), .val (.int p5), .val (.ref b1), .val (.ref b17), .val (.int (0 : Int32)), .val (.ref b20), .val (.ref b25), .val (.ref r50), .val (.ref r59)] [])) (fun t_ k_ => XS.ifnullNo X59.here hx rfl (hb hby at_226) rfl k_) ?_
      refine own_go (T59.setTop (mkF m 231 #[.val (.int p0), .val (.int p1), .val (.int p2), .val (.int p3), .val (.int p4), .val (.int p5), .val (.ref b1), .val (.ref b17), .val (.int (0 : Int32)), .val (.ref b20), .val (.ref b25), .val (.ref r50), .val (.ref r59)] [(.ref r59)])) (fun t_ k_ => XS.aload X59.here hx rfl (hb hby at_229) rfl rfl k_) ?_
      refine own_go (T59.setTop (mkF m 233 #[.val (.int p0), .val (.int p1), .val (.int p2), .val (.int p3), .val (.int p4), .val (.int p5), .val (.ref b1), .val (.ref b17), .val (.int (0 : Int32)), .val (.ref b20), .val (.ref b25), .val (.ref r50), .val (.ref r59)] [(.int (0 : Int32)), (.ref r59)])) (fun t_ k_ => XS.iload X59.here hx rfl (hb hby at_231) rfl k_) ?_
      refine own_go (T59.setTop (mkF m 234 #[.val (.int p0), .val (.int p1), .val (.int p2), .val (.int p3), .val (.int p4), .val (.int p5), .val (.ref b1), .val (.ref b17), .val (.int (0 : Int32)), .val (.ref b20), .val (.ref b25), .val (.ref r50), .val (.ref r59)] [(.int p2), (.int (0 : Int32)), (.ref r59)])) (fun t_ k_ => XS.iloadN X59.here hx rfl (hb hby at_233) rfl k_) ?_
      refine own_go (T59.setTop (mkF m 235 #[.val (.int p0), .val (.int p1), .val (.int p2), .val (.int p3), .val (.int p4), .val (.int p5), .val (.ref b1), .val (.ref b17), .val (.int (0 : Int32)), .val (.ref b20), .val (.ref b25), .val (.ref r50), .val (.ref r59)] [(.int p3), (.int p2), (.int (0 : Int32)), (.ref r59)])) (fun t_ k_ => XS.iloadN X59.here hx rfl (hb hby at_234) rfl k_) ?_
      refine own_go (T59.setTop (mkF m 237 #[.val (.int p0), .val (.int p1), .val (.int p2), .val (.int p3), .val (.int p4), .val (.int p5), .val (.ref b1), .val (.ref b17), .val (.int (0 : Int32)), .val (.ref b20), .val (.ref b25), .val (.ref r50), .val (.ref r59)] [(.int p4), (.int p3), (.int p2), (.int (0 : Int32)), (.ref r59)])) (fun t_ k_ => XS.iload X59.here hx rfl (hb hby at_235) rfl k_) ?_
      refine own_go (T59.setTop (mkF m 239 #[.val (.int p0), .val (.int p1), .val (.int p2), .val (.int p3), .val (.int p4), .val (.int p5), .val (.ref b1), .val (.ref b17), .val (.int (0 : Int32)), .val (.ref b20), .val (.ref b25), .val (.ref r50), .val (.ref r59)] [(.int p5), (.int p4), (.int p3), (.int p2), (.int (0 : Int32)), (.ref r59)])) (fun t_ k_ => XS.iload X59.here hx rfl (hb hby at_237) rfl k_) ?_
      obtain ⟨_, _, ⟨T61, Lu61, ku61, nu61⟩, -, X61, ⟨Lc61, hQ61, lu61, yu61, zu61⟩, st61⟩ := Jvm.LawKit.callS X59 hx (y := (⟨"com/example/trailcaster/trailcaster/model/ParticipantObjectQueryPinLaw", "same", "([BIIIII)Z"⟩ : MethodName)) hown (mvT hZ (hw _ (List.mem_of_getElem? (i := 224) rfl))) (mvT hZ (hw _ (List.mem_of_getElem? (i := 225) rfl))) (mvT hZ (hw _ (List.mem_of_getElem? (i := 73) rfl))) (mvT hZ (hw _ (List.mem_of_getElem? (i := 226) rfl))) (by decide) (backOf (W := 0) (rm_same0 l Z a0 hw [] (r59) (k20) (p2) (p3) (p4) (p5) T59.heap O59 A59q) hZ (hw _ (List.mem_of_getElem? (i := 226) rfl)) (hw _ (List.mem_of_getElem? (i := 73) rfl)) (by decide) (by decide)) (g := (mkF m 239 #[.val (.int p0), .val (.int p1), .val (.int p2), .val (.int p3), .val (.int p4), .val (.int p5), .val (.ref b1), .val (.ref b17), .val (.int (0 : Int32)), .val (.ref b20), .val (.ref b25), .val (.ref r50), .val (.ref r59)] [(.int p5), (.int p4), (.int p3), (.int p2), (.int (0 : Int32)), (.ref r59)])) rfl (by rw [hml]; rfl) (argsL := [(.ref r59), (.int (0 : Int32)), (.int p2), (.int p3), (.int p4), (.int p5)]) (rest := []) (lenOf own_pd21 rfl) rfl (by show 2 * 0 + _ ≤ _; exact Nat.le_of_eq rfl) (hb hby at_239) (fun _ _ => ⟨rfl, rfl, (by decide : 36 + 0 ≤ _), (by decide : 383 + 0 ≤ _)⟩)
      dsimp only [Pt.U, Pt.locs, Pt.cells, Pt.slots] at X61 lu61 yu61 zu61 st61 hQ61
      subst lu61 yu61 zu61
      obtain ⟨rfl, N61q, e61⟩ := hQ61
      have N61 := Fr.app N59 N61q
      refine own_go (T61.setTop (mkF m 242 #[.val (.int p0), .val (.int p1), .val (.int p2), .val (.int p3), .val (.int p4), .val (.int p5), .val (.ref b1), .val (.ref b17), .val (.int (0 : Int32)), .val (.ref b20), .val (.ref b25), .val (.ref r50), .val (.ref r59)] [(.int (1 : Int32))])) (fun t_ k_ => st61 _ k_) ?_
      refine own_go (T61.setTop (mkF m 245 #[.val (.int p0), .val (.int p1), .val (.int p2), .val (.int p3), .val (.int p4), .val (.int p5), .val (.ref b1), .val (.ref b17), .val (.int (0 : Int32)), .val (.ref b20), .val (.ref b25), .val (.ref r50), .val (.ref r59)] [])) (fun t_ k_ => XS.ifNo X61.here hx rfl (hb hby at_242) rfl ((if0 _ _).trans (feq (by decide : ¬ ((1 : Int32) = (0 : Int32)))).1) k_) ?_
      refine own_go (T61.setTop (mkF m 246 #[.val (.int p0), .val (.int p1), .val (.int p2), .val (.int p3), .val (.int p4), .val (.int p5), .val (.ref b1), .val (.ref b17), .val (.int (0 : Int32)), .val (.ref b20), .val (.ref b25), .val (.ref r50), .val (.ref r59)] [(.int (1 : Int32))])) (fun t_ k_ => XS.iconst X61.here hx rfl (hb hby at_245) k_) ?_
      refine own_go (T61.setTop (mkF m 250 #[.val (.int p0), .val (.int p1), .val (.int p2), .val (.int p3), .val (.int p4), .val (.int p5), .val (.ref b1), .val (.ref b17), .val (.int (0 : Int32)), .val (.ref b20), .val (.ref b25), .val (.ref r50), .val (.ref r59)] [(.int (1 : Int32))])) (fun t_ k_ => XS.goto X61.here hx rfl (pc0 := 246) (pc' := 250) rfl (hb hby at_246) (by decide) (by decide) k_) ?_
      obtain ⟨fs, hr, hrun, hended, hRW⟩ := X61.leaveW hS (by rw [show T61.heap = T59.heap from e61]; exact (Nat.le_trans (Nat.le_trans (Nat.le_refl _) K50q.1) K59q.1)) (v := some (.int (nar .boolean (1 : Int32)))) (fun h => by rw [Bd.returns] at h; cases h)
      refine ⟨_, _, retN X61 hx (t := .boolean) Bd.returns (by simp) (hb hby at_250) hr, hrun, hended, _, _, rfl, ?_, hRW.1, hRW.2.1, hRW.2.2.1, hRW.2.2.2.mono (by decide) (by decide)⟩
      show Q_law Z p0 p1 p2 p3 p4 p5 cs0 a_EM a_DF m_A m_L m_R h0 _ T61.heap _
      exact ⟨rfl, N61, trivial⟩
    ·
      rw [hl1]
      refine own_go (T18.setTop (mkF m 81 #[.val (.int p0), .val (.int p1), .val (.int p2), .val (.int p3), .val (.int p4), .val (.int p5), .val (.ref b1), .val (.ref b17), .val (.int (1 : Int32)), .unset, .unset, .unset, .unset] [])) (fun t_ k_ => XS.istore X18.here hx rfl (hb hby at_79) rfl (l' := #[.val (.int p0), .val (.int p1), .val (.int p2), .val (.int p3), .val (.int p4), .val (.int p5), .val (.ref b1), .val (.ref b17), .val (.int (1 : Int32)), .unset, .unset, .unset, .unset]) rfl k_) ?_
      refine own_go (T18.setTop (mkF m 83 #[.val (.int p0), .val (.int p1), .val (.int p2), .val (.int p3), .val (.int p4), .val (.int p5), .val (.ref b1), .val (.ref b17), .val (.int (1 : Int32)), .unset, .unset, .unset, .unset] [(.int (1 : Int32))])) (fun t_ k_ => XS.iload X18.here hx rfl (hb hby at_81) rfl k_) ?_
      obtain ⟨T62, h62, k62, X62, e62, E62, A62, Xa62, st62⟩ := newPE X18 hx hZ (hw _ (List.mem_of_getElem? (i := 6) rfl)) rfl (g := (mkF m 83 #[.val (.int p0), .val (.int p1), .val (.int p2), .val (.int p3), .val (.int p4), .val (.int p5), .val (.ref b1), .val (.ref b17), .val (.int (1 : Int32)), .unset, .unset, .unset, .unset] [(.int (1 : Int32))])) rfl (hb hby at_83) rfl (by decide) (cap := 1) (by decide) (by decide) (by decide) (by decide) (ad := "[B") (by decide)
      obtain ⟨b62, g62⟩ : ∃ z, z = T18.heap.size := ⟨_, rfl⟩
      rw [← g62] at A62 st62 Xa62
      have ge_b62 : Z.heap.size ≤ b62 := Nat.le_trans O18.1 (Nat.le_of_eq g62.symm)
      have sz_b62 : h0.size ≤ b62 := Nat.le_trans KK18.1 (Nat.le_of_eq g62.symm)
      have R62 := R18.trans (CHr.ext E62 R18.1)
      have Sf62 := Safe.ext (x := b62) E62 R18.1 (Safe.new (Nat.le_of_eq g62.symm))
      have K62 : Keep h0 h62 [] := KK18.ext E62
      have O62 := own_ext O18 E62
      have V62 : Arv Z h62 b62 k62 .byte (1 : Int32) [(.int (0 : Int32))] (.int (0 : Int32)) := (Arv.new A62 (by decide)).pad (pad_rep [] (.int (0 : Int32)) 1)
      refine own_go (T62.setTop (mkF m 85 #[.val (.int p0), .val (.int p1), .val (.int p2), .val (.int p3), .val (.int p4), .val (.int p5), .val (.ref b1), .val (.ref b17), .val (.int (1 : Int32)), .unset, .unset, .unset, .unset] [(.ref b62)])) (fun t_ k_ => st62 _ k_) ?_
      refine own_go (T62.setTop (mkF m 87 #[.val (.int p0), .val (.int p1), .val (.int p2), .val (.int p3), .val (.int p4), .val (.int p5), .val (.ref b1), .val (.ref b17), .val (.int (1 : Int32)), .val (.ref b62), .unset, .unset, .unset] [])) (fun t_ k_ => XS.astore X62.here hx rfl (hb hby at_85) rfl rfl (l' := #[.val (.int p0), .val (.int p1), .val (.int p2), .val (.int p3), .val (.int p4), .val (.int p5), .val (.ref b1), .val (.ref b17), .val (.int (1 : Int32)), .val (.ref b62), .unset, .unset, .unset]) rfl k_) ?_
      refine own_go (T62.setTop (mkF m 89 #[.val (.int p0), .val (.int p1), .val (.int p2), .val (.int p3), .val (.int p4), .val (.int p5), .val (.ref b1), .val (.ref b17), .val (.int (1 : Int32)), .val (.ref b62), .unset, .unset, .unset] [(.ref b62)])) (fun t_ k_ => XS.aload X62.here hx rfl (hb hby at_87) rfl rfl k_) ?_
      refine own_go (T62.setTop (mkF m 90 #[.val (.int p0), .val (.int p1), .val (.int p2), .val (.int p3), .val (.int p4), .val (.int p5), .val (.ref b1), .val (.ref b17), .val (.int (1 : Int32)), .val (.ref b62), .unset, .unset, .unset] [(.int (0 : Int32)), (.ref b62)])) (fun t_ k_ => XS.iconst X62.here hx rfl (hb hby at_89) k_) ?_
      refine own_go (T62.setTop (mkF m 91 #[.val (.int p0), .val (.int p1), .val (.int p2), .val (.int p3), .val (.int p4), .val (.int p5), .val (.ref b1), .val (.ref b17), .val (.int (1 : Int32)), .val (.ref b62), .unset, .unset, .unset] [(.int p2), (.int (0 : Int32)), (.ref b62)])) (fun t_ k_ => XS.iloadN X62.here hx rfl (hb hby at_90) rfl k_) ?_
      obtain ⟨_, _, ⟨T63, Lu63, ku63, nu63⟩, -, X63, ⟨Lc63, hQ63, lu63, yu63, zu63⟩, st63⟩ := Jvm.LawKit.callS X62 hx (y := (⟨"com/example/trailcaster/trailcaster/model/ParticipantObjectQueryPinLaw", "set", "([BII)V"⟩ : MethodName)) hown (mvT hZ (hw _ (List.mem_of_getElem? (i := 71) rfl))) (mvT hZ (hw _ (List.mem_of_getElem? (i := 72) rfl))) (mvT hZ (hw _ (List.mem_of_getElem? (i := 73) rfl))) (mvT hZ (hw _ (List.mem_of_getElem? (i := 74) rfl))) (by decide) (backOf (W := 0) (rm_seti l Z a0 hw [] (b62) (k62) ((1 : Int32)) ([(.int (0 : Int32))]) ((0 : Int32)) (0) (p2) h62 O62 V62 (by decide) (by decide) rfl (Nat.le_of_ble_eq_true rfl) ge_b62) hZ (hw _ (List.mem_of_getElem? (i := 74) rfl)) (hw _ (List.mem_of_getElem? (i := 73) rfl)) (by decide) (by decide)) (g := (mkF m 91 #[.val (.int p0), .val (.int p1), .val (.int p2), .val (.int p3), .val (.int p4), .val (.int p5), .val (.ref b1), .val (.ref b17), .val (.int (1 : Int32)), .val (.ref b62), .unset, .unset, .unset] [(.int p2), (.int (0 : Int32)), (.ref b62)])) rfl (by rw [hml]; rfl) (argsL := [(.ref b62), (.int (0 : Int32)), (.int p2)]) (rest := []) (lenOf own_pd17 rfl) rfl (by show 2 * 0 + _ ≤ _; exact Nat.le_of_eq rfl) (hb hby at_91) (fun _ _ => ⟨rfl, e62, (by decide : 15 + 0 ≤ _), (by decide : 163 + 0 ≤ _)⟩)
      dsimp only [Pt.U, Pt.locs, Pt.cells, Pt.slots] at X63 lu63 yu63 zu63 st63 hQ63
      subst lu63 yu63 zu63
      obtain ⟨rfl, N63q, K63q, A63q⟩ := hQ63
      have N63 := Fr.app N18 N63q
      have A63r : Arv Z T63.heap b62 k62 .byte (1 : Int32) [(.int (nar .byte (p2.toInt8.toInt32)))] (.int 0) := A63q
      have O63 := own_extK O62 K63q (allS ge_b62 all0)
      have KK63 : Keep h0 T63.heap [] := K62.trans K63q (allS (Or.inr sz_b62) all0)
      have R63 := R62.trans (CHr.keep K63q (allS Sf62 all0) R62.1)
      refine own_go (T63.setTop (mkF m 94 #[.val (.int p0), .val (.int p1), .val (.int p2), .val (.int p3), .val (.int p4), .val (.int p5), .val (.ref b1), .val (.ref b17), .val (.int (1 : Int32)), .val (.ref b62), .unset, .unset, .unset] [])) (fun t_ k_ => st63 _ k_) ?_
      refine own_go (T63.setTop (mkF m 96 #[.val (.int p0), .val (.int p1), .val (.int p2), .val (.int p3), .val (.int p4), .val (.int p5), .val (.ref b1), .val (.ref b17), .val (.int (1 : Int32)), .val (.ref b62), .unset, .unset, .unset] [(.ref b62)])) (fun t_ k_ => XS.aload X63.here hx rfl (hb hby at_94) rfl rfl k_) ?_
      refine own_go (T63.setTop (mkF m 97 #[.val (.int p0), .val (.int p1), .val (.int p2), .val (.int p3), .val (.int p4), .val (.int p5), .val (.ref b1), .val (.ref b17), .val (.int (1 : Int32)), .val (.ref b62), .unset, .unset, .unset] [(.int (1 : Int32)), (.ref b62)])) (fun t_ k_ => XS.iconst X63.here hx rfl (hb hby at_96) k_) ?_
      refine own_go (T63.setTop (mkF m 98 #[.val (.int p0), .val (.int p1), .val (.int p2), .val (.int p3), .val (.int p4), .val (.int p5), .val (.ref b1), .val (.ref b17), .val (.int (1 : Int32)), .val (.ref b62), .unset, .unset, .unset] [(.int p3), (.int (1 : Int32)), (.ref b62)])) (fun t_ k_ => XS.iloadN X63.here hx rfl (hb hby at_97) rfl k_) ?_
      obtain ⟨_, _, ⟨T64, Lu64, ku64, nu64⟩, -, X64, ⟨Lc64, hQ64, lu64, yu64, zu64⟩, st64⟩ := Jvm.LawKit.callS X63 hx (y := (⟨"com/example/trailcaster/trailcaster/model/ParticipantObjectQueryPinLaw", "set", "([BII)V"⟩ : MethodName)) hown (mvT hZ (hw _ (List.mem_of_getElem? (i := 71) rfl))) (mvT hZ (hw _ (List.mem_of_getElem? (i := 72) rfl))) (mvT hZ (hw _ (List.mem_of_getElem? (i := 73) rfl))) (mvT hZ (hw _ (List.mem_of_getElem? (i := 74) rfl))) (by decide) (backOf (W := 0) (rm_seto l Z a0 hw [] (b62) (k62) ((1 : Int32)) ([(.int (nar .byte (p2.toInt8.toInt32)))]) ((1 : Int32)) (p3) T63.heap O63 A63r (by decide)) hZ (hw _ (List.mem_of_getElem? (i := 74) rfl)) (hw _ (List.mem_of_getElem? (i := 73) rfl)) (by decide) (by decide)) (g := (mkF m 98 #[.val (.int p0), .val (.int p1), .val (.int p2), .val (.int p3), .val (.int p4), .val (.int p5), .val (.ref b1), .val (.ref b17), .val (.int (1 : Int32)), .val (.ref b62), .unset, .unset, .unset] [(.int p3), (.int (1 : Int32)), (.ref b62)])) rfl (by rw [hml]; rfl) (argsL := [(.ref b62), (.int (1 : Int32)), (.int p3)]) (rest := []) (lenOf own_pd17 rfl) rfl (by show 2 * 0 + _ ≤ _; exact Nat.le_of_eq rfl) (hb hby at_98) (fun _ _ => ⟨rfl, rfl, (by decide : 15 + 0 ≤ _), (by decide : 163 + 0 ≤ _)⟩)
      dsimp only [Pt.U, Pt.locs, Pt.cells, Pt.slots] at X64 lu64 yu64 zu64 st64 hQ64
      subst lu64 yu64 zu64
      obtain ⟨rfl, N64q, e64⟩ := hQ64
      have N64 := Fr.app N63 N64q
      refine own_go (T64.setTop (mkF m 101 #[.val (.int p0), .val (.int p1), .val (.int p2), .val (.int p3), .val (.int p4), .val (.int p5), .val (.ref b1), .val (.ref b17), .val (.int (1 : Int32)), .val (.ref b62), .unset, .unset, .unset] [])) (fun t_ k_ => st64 _ k_) ?_
      refine own_go (T64.setTop (mkF m 103 #[.val (.int p0), .val (.int p1), .val (.int p2), .val (.int p3), .val (.int p4), .val (.int p5), .val (.ref b1), .val (.ref b17), .val (.int (1 : Int32)), .val (.ref b62), .unset, .unset, .unset] [(.ref b62)])) (fun t_ k_ => XS.aload X64.here hx rfl (hb hby at_101) rfl rfl k_) ?_
      refine own_go (T64.setTop (mkF m 104 #[.val (.int p0), .val (.int p1), .val (.int p2), .val (.int p3), .val (.int p4), .val (.int p5), .val (.ref b1), .val (.ref b17), .val (.int (1 : Int32)), .val (.ref b62), .unset, .unset, .unset] [(.int (2 : Int32)), (.ref b62)])) (fun t_ k_ => XS.iconst X64.here hx rfl (hb hby at_103) k_) ?_
      refine own_go (T64.setTop (mkF m 106 #[.val (.int p0), .val (.int p1), .val (.int p2), .val (.int p3), .val (.int p4), .val (.int p5), .val (.ref b1), .val (.ref b17), .val (.int (1 : Int32)), .val (.ref b62), .unset, .unset, .unset] [(.int p4), (.int (2 : Int32)), (.ref b62)])) (fun t_ k_ => XS.iload X64.here hx rfl (hb hby at_104) rfl k_) ?_
      obtain ⟨_, _, ⟨T65, Lu65, ku65, nu65⟩, -, X65, ⟨Lc65, hQ65, lu65, yu65, zu65⟩, st65⟩ := Jvm.LawKit.callS X64 hx (y := (⟨"com/example/trailcaster/trailcaster/model/ParticipantObjectQueryPinLaw", "set", "([BII)V"⟩ : MethodName)) hown (mvT hZ (hw _ (List.mem_of_getElem? (i := 71) rfl))) (mvT hZ (hw _ (List.mem_of_getElem? (i := 72) rfl))) (mvT hZ (hw _ (List.mem_of_getElem? (i := 73) rfl))) (mvT hZ (hw _ (List.mem_of_getElem? (i := 74) rfl))) (by decide) (backOf (W := 0) (rm_seto l Z a0 hw [] (b62) (k62) ((1 : Int32)) ([(.int (nar .byte (p2.toInt8.toInt32)))]) ((2 : Int32)) (p4) T63.heap O63 A63r (by decide)) hZ (hw _ (List.mem_of_getElem? (i := 74) rfl)) (hw _ (List.mem_of_getElem? (i := 73) rfl)) (by decide) (by decide)) (g := (mkF m 106 #[.val (.int p0), .val (.int p1), .val (.int p2), .val (.int p3), .val (.int p4), .val (.int p5), .val (.ref b1), .val (.ref b17), .val (.int (1 : Int32)), .val (.ref b62), .unset, .unset, .unset] [(.int p4), (.int (2 : Int32)), (.ref b62)])) rfl (by rw [hml]; rfl) (argsL := [(.ref b62), (.int (2 : Int32)), (.int p4)]) (rest := []) (lenOf own_pd17 rfl) rfl (by show 2 * 0 + _ ≤ _; exact Nat.le_of_eq rfl) (hb hby at_106) (fun _ _ => ⟨rfl, e64, (by decide : 15 + 0 ≤ _), (by decide : 163 + 0 ≤ _)⟩)
      dsimp only [Pt.U, Pt.locs, Pt.cells, Pt.slots] at X65 lu65 yu65 zu65 st65 hQ65
      subst lu65 yu65 zu65
      obtain ⟨rfl, N65q, e65⟩ := hQ65
      have N65 := Fr.app N64 N65q
      refine own_go (T65.setTop (mkF m 109 #[.val (.int p0), .val (.int p1), .val (.int p2), .val (.int p3), .val (.int p4), .val (.int p5), .val (.ref b1), .val (.ref b17), .val (.int (1 : Int32)), .val (.ref b62), .unset, .unset, .unset] [])) (fun t_ k_ => st65 _ k_) ?_
      refine own_go (T65.setTop (mkF m 111 #[.val (.int p0), .val (.int p1), .val (.int p2), .val (.int p3), .val (.int p4), .val (.int p5), .val (.ref b1), .val (.ref b17), .val (.int (1 : Int32)), .val (.ref b62), .unset, .unset, .unset] [(.ref b62)])) (fun t_ k_ => XS.aload X65.here hx rfl (hb hby at_109) rfl rfl k_) ?_
      refine own_go (T65.setTop (mkF m 112 #[.val (.int p0), .val (.int p1), .val (.int p2), .val (.int p3), .val (.int p4), .val (.int p5), .val (.ref b1), .val (.ref b17), .val (.int (1 : Int32)), .val (.ref b62), .unset, .unset, .unset] [(.int (3 : Int32)), (.ref b62)])) (fun t_ k_ => XS.iconst X65.here hx rfl (hb hby at_111) k_) ?_
      refine own_go (T65.setTop (mkF m 114 #[.val (.int p0), .val (.int p1), .val (.int p2), .val (.int p3), .val (.int p4), .val (.int p5), .val (.ref b1), .val (.ref b17), .val (.int (1 : Int32)), .val (.ref b62), .unset, .unset, .unset] [(.int p5), (.int (3 : Int32)), (.ref b62)])) (fun t_ k_ => XS.iload X65.here hx rfl (hb hby at_112) rfl k_) ?_
      obtain ⟨_, _, ⟨T66, Lu66, ku66, nu66⟩, -, X66, ⟨Lc66, hQ66, lu66, yu66, zu66⟩, st66⟩ := Jvm.LawKit.callS X65 hx (y := (⟨"com/example/trailcaster/trailcaster/model/ParticipantObjectQueryPinLaw", "set", "([BII)V"⟩ : MethodName)) hown (mvT hZ (hw _ (List.mem_of_getElem? (i := 71) rfl))) (mvT hZ (hw _ (List.mem_of_getElem? (i := 72) rfl))) (mvT hZ (hw _ (List.mem_of_getElem? (i := 73) rfl))) (mvT hZ (hw _ (List.mem_of_getElem? (i := 74) rfl))) (by decide) (backOf (W := 0) (rm_seto l Z a0 hw [] (b62) (k62) ((1 : Int32)) ([(.int (nar .byte (p2.toInt8.toInt32)))]) ((3 : Int32)) (p5) T63.heap O63 A63r (by decide)) hZ (hw _ (List.mem_of_getElem? (i := 74) rfl)) (hw _ (List.mem_of_getElem? (i := 73) rfl)) (by decide) (by decide)) (g := (mkF m 114 #[.val (.int p0), .val (.int p1), .val (.int p2), .val (.int p3), .val (.int p4), .val (.int p5), .val (.ref b1), .val (.ref b17), .val (.int (1 : Int32)), .val (.ref b62), .unset, .unset, .unset] [(.int p5), (.int (3 : Int32)), (.ref b62)])) rfl (by rw [hml]; rfl) (argsL := [(.ref b62), (.int (3 : Int32)), (.int p5)]) (rest := []) (lenOf own_pd17 rfl) rfl (by show 2 * 0 + _ ≤ _; exact Nat.le_of_eq rfl) (hb hby at_114) (fun _ _ => ⟨rfl, e65, (by decide : 15 + 0 ≤ _), (by decide : 163 + 0 ≤ _)⟩)
      dsimp only [Pt.U, Pt.locs, Pt.cells, Pt.slots] at X66 lu66 yu66 zu66 st66 hQ66
      subst lu66 yu66 zu66
      obtain ⟨rfl, N66q, e66⟩ := hQ66
      have N66 := Fr.app N65 N66q
      refine own_go (T66.setTop (mkF m 117 #[.val (.int p0), .val (.int p1), .val (.int p2), .val (.int p3), .val (.int p4), .val (.int p5), .val (.ref b1), .val (.ref b17), .val (.int (1 : Int32)), .val (.ref b62), .unset, .unset, .unset] [])) (fun t_ k_ => st66 _ k_) ?_
      obtain ⟨T67, h67, X67, e67, E67, A67, D67, U67, st67⟩ := newO X66 hx hZ hown (hw _ (List.mem_of_getElem? (i := 75) rfl)) (hw _ (List.mem_of_getElem? (i := 76) rfl)) (hw _ (List.mem_of_getElem? (i := 77) rfl)) e66 (g := (mkF m 117 #[.val (.int p0), .val (.int p1), .val (.int p2), .val (.int p3), .val (.int p4), .val (.int p5), .val (.ref b1), .val (.ref b17), .val (.int (1 : Int32)), .val (.ref b62), .unset, .unset, .unset] [])) rfl (hb hby at_117) (by decide) (by decide)
      obtain ⟨b67, g67⟩ : ∃ z, z = T63.heap.size := ⟨_, rfl⟩
      rw [← g67] at A67 D67 U67 st67
      have ge_b67 : Z.heap.size ≤ b67 := Nat.le_trans O63.1 (Nat.le_of_eq g67.symm)
      have sz_b67 : h0.size ≤ b67 := Nat.le_trans KK63.1 (Nat.le_of_eq g67.symm)
      have R67 := R63.trans (CHr.ext E67 R63.1)
      have Sf67 := Safe.ext (x := b67) E67 R63.1 (Safe.new (Nat.le_of_eq g67.symm))
      have K67 : Keep h0 h67 [] := KK63.ext E67
      have O67 := own_ext O63 E67
      have Fid_67 : Fld Z h67 b67 "com/example/trailcaster/trailcaster/model/ParticipantObject" "id" "Ljava/lang/String;" .null := D67 (Or.inr (hw _ (List.mem_of_getElem? (i := 201) rfl))) (ty := (.object "java/lang/String")) (by decide)
      have FtypeCode_67 : Fld Z h67 b67 "com/example/trailcaster/trailcaster/model/ParticipantObject" "typeCode" "Ljava/lang/String;" .null := D67 (Or.inr (hw _ (List.mem_of_getElem? (i := 203) rfl))) (ty := (.object "java/lang/String")) (by decide)
      have FtypeCodeRole_67 : Fld Z h67 b67 "com/example/trailcaster/trailcaster/model/ParticipantObject" "typeCodeRole" "Ljava/lang/String;" .null := D67 (Or.inr (hw _ (List.mem_of_getElem? (i := 205) rfl))) (ty := (.object "java/lang/String")) (by decide)
      have FidTypeCode_67 : Fld Z h67 b67 "com/example/trailcaster/trailcaster/model/ParticipantObject" "idTypeCode" "Lcom/example/trailcaster/trailcaster/model/CodedValue;" .null := D67 (Or.inr (hw _ (List.mem_of_getElem? (i := 207) rfl))) (ty := (.object "com/example/trailcaster/trailcaster/model/CodedValue")) (by decide)
      have Fname_67 : Fld Z h67 b67 "com/example/trailcaster/trailcaster/model/ParticipantObject" "name" "Ljava/lang/String;" .null := D67 (Or.inr (hw _ (List.mem_of_getElem? (i := 209) rfl))) (ty := (.object "java/lang/String")) (by decide)
      have Fquery_67 : Fld Z h67 b67 "com/example/trailcaster/trailcaster/model/ParticipantObject" "query" "[B" .null := D67 (Or.inr (hw _ (List.mem_of_getElem? (i := 211) rfl))) (ty := (.array .byte)) (by decide)
      have Fdetails_67 : Fld Z h67 b67 "com/example/trailcaster/trailcaster/model/ParticipantObject" "details" "Ljava/util/List;" .null := D67 (Or.inr (hw _ (List.mem_of_getElem? (i := 213) rfl))) (ty := (.object "java/util/List")) (by decide)
      have Fdescription_67 : Fld Z h67 b67 "com/example/trailcaster/trailcaster/model/ParticipantObject" "description" "Lcom/example/trailcaster/trailcaster/model/DicomObjectDescription;" .null := D67 (Or.inr (hw _ (List.mem_of_getElem? (i := 215) rfl))) (ty := (.object "com/example/trailcaster/trailcaster/model/DicomObjectDescription")) (by decide)
      refine own_go (T67.setTop (mkF m 120 #[.val (.int p0), .val (.int p1), .val (.int p2), .val (.int p3), .val (.int p4), .val (.int p5), .val (.ref b1), .val (.ref b17), .val (.int (1 : Int32)), .val (.ref b62), .unset, .unset, .unset] [(.ref b67)])) (fun t_ k_ => st67 _ k_) ?_
      refine own_go (T67.setTop (mkF m 121 #[.val (.int p0), .val (.int p1), .val (.int p2), .val (.int p3), .val (.int p4), .val (.int p5), .val (.ref b1), .val (.ref b17), .val (.int (1 : Int32)), .val (.ref b62), .unset, .unset, .unset] [(.ref b67), (.ref b67)])) (fun t_ k_ => XS.dup X67.here hx rfl (hb hby at_120) rfl rfl k_) ?_
      obtain ⟨a68, T68, h68, k68, t68, kb68, X68, e68, E68, hS, hk, hZ, hown, A68, C68, V68, B68, lt68, ltb68, CC68, Li68, ne68, st68⟩ := ldcCH (EL := consts_1) X67 hx hZ hown (hw _ (List.mem_of_getElem? (i := 78) rfl)) (fun d hd => hw d (own_sA d hd)) e67 hS (Nat.le_trans (Nat.le_trans (Nat.le_trans (Nat.le_trans (Nat.le_trans (Nat.le_refl _) E17.1) K18q.1) E62.1) K63q.1) E67.1) hEW (List.mem_of_getElem? (i := 11) rfl) R67.1 (vs := (([105] : List Int32).map (fun c => c.toInt8.toInt32)).map Value.int) (z := 1) (by exact ⟨by decide, by rfl⟩) (by decide) (by rfl) (g := (mkF m 121 #[.val (.int p0), .val (.int p1), .val (.int p2), .val (.int p3), .val (.int p4), .val (.int p5), .val (.ref b1), .val (.ref b17), .val (.int (1 : Int32)), .val (.ref b62), .unset, .unset, .unset] [(.ref b67), (.ref b67)])) rfl (hb hby at_121) (n := 4) (by decide) (by decide) (by decide) (by decide)
      have K68 : Keep h0 h68 [] := K67.ext E68
      have O68 := own_ext O67 E68
      have R68 := R67.trans CC68
      refine own_go (T68.setTop (mkF m 123 #[.val (.int p0), .val (.int p1), .val (.int p2), .val (.int p3), .val (.int p4), .val (.int p5), .val (.ref b1), .val (.ref b17), .val (.int (1 : Int32)), .val (.ref b62), .unset, .unset, .unset] [(.ref a68), (.ref b67), (.ref b67)])) (fun t_ k_ => st68 _ k_) ?_
      obtain ⟨a69, T69, h69, k69, t69, kb69, X69, e69, E69, hS, hk, hZ, hown, A69, C69, V69, B69, lt69, ltb69, CC69, Li69, ne69, st69⟩ := ldcCH (EL := consts_1) X68 hx hZ hown (hw _ (List.mem_of_getElem? (i := 79) rfl)) (fun d hd => hw d (own_sA d hd)) e68 hS hk hEW (List.mem_of_getElem? (i := 12) rfl) R68.1 (vs := (([116] : List Int32).map (fun c => c.toInt8.toInt32)).map Value.int) (z := 1) (by exact ⟨by decide, by rfl⟩) (by decide) (by rfl) (g := (mkF m 123 #[.val (.int p0), .val (.int p1), .val (.int p2), .val (.int p3), .val (.int p4), .val (.int p5), .val (.ref b1), .val (.ref b17), .val (.int (1 : Int32)), .val (.ref b62), .unset, .unset, .unset] [(.ref a68), (.ref b67), (.ref b67)])) rfl (hb hby at_123) (n := 4) (by decide) (by decide) (by decide) (by decide)
      have K69 : Keep h0 h69 [] := K68.ext E69
      have O69 := own_ext O68 E69
      have R69 := R68.trans CC69
      refine own_go (T69.setTop (mkF m 125 #[.val (.int p0), .val (.int p1), .val (.int p2), .val (.int p3), .val (.int p4), .val (.int p5), .val (.ref b1), .val (.ref b17), .val (.int (1 : Int32)), .val (.ref b62), .unset, .unset, .unset] [(.ref a69), (.ref a68), (.ref b67), (.ref b67)])) (fun t_ k_ => st69 _ k_) ?_
      refine own_go (T69.setTop (mkF m 126 #[.val (.int p0), .val (.int p1), .val (.int p2), .val (.int p3), .val (.int p4), .val (.int p5), .val (.ref b1), .val (.ref b17), .val (.int (1 : Int32)), .val (.ref b62), .unset, .unset, .unset] [.null, (.ref a69), (.ref a68), (.ref b67), (.ref b67)])) (fun t_ k_ => XS.aconstNull X69.here hx rfl (hb hby at_125) k_) ?_
      refine own_go (T69.setTop (mkF m 128 #[.val (.int p0), .val (.int p1), .val (.int p2), .val (.int p3), .val (.int p4), .val (.int p5), .val (.ref b1), .val (.ref b17), .val (.int (1 : Int32)), .val (.ref b62), .unset, .unset, .unset] [(.ref b1), .null, (.ref a69), (.ref a68), (.ref b67), (.ref b67)])) (fun t_ k_ => XS.aload X69.here hx rfl (hb hby at_126) rfl rfl k_) ?_
      refine own_go (T69.setTop (mkF m 129 #[.val (.int p0), .val (.int p1), .val (.int p2), .val (.int p3), .val (.int p4), .val (.int p5), .val (.ref b1), .val (.ref b17), .val (.int (1 : Int32)), .val (.ref b62), .unset, .unset, .unset] [.null, (.ref b1), .null, (.ref a69), (.ref a68), (.ref b67), (.ref b67)])) (fun t_ k_ => XS.aconstNull X69.here hx rfl (hb hby at_128) k_) ?_
      refine own_go (T69.setTop (mkF m 131 #[.val (.int p0), .val (.int p1), .val (.int p2), .val (.int p3), .val (.int p4), .val (.int p5), .val (.ref b1), .val (.ref b17), .val (.int (1 : Int32)), .val (.ref b62), .unset, .unset, .unset] [(.ref b62), .null, (.ref b1), .null, (.ref a69), (.ref a68), (.ref b67), (.ref b67)])) (fun t_ k_ => XS.aload X69.here hx rfl (hb hby at_129) rfl rfl k_) ?_
      refine own_go (T69.setTop (mkF m 133 #[.val (.int p0), .val (.int p1), .val (.int p2), .val (.int p3), .val (.int p4), .val (.int p5), .val (.ref b1), .val (.ref b17), .val (.int (1 : Int32)), .val (.ref b62), .unset, .unset, .unset] [(.ref b17), (.ref b62), .null, (.ref b1), .null, (.ref a69), (.ref a68), (.ref b67), (.ref b67)])) (fun t_ k_ => XS.aload X69.here hx rfl (hb hby at_131) rfl rfl k_) ?_
      refine own_go (T69.setTop (mkF m 134 #[.val (.int p0), .val (.int p1), .val (.int p2), .val (.int p3), .val (.int p4), .val (.int p5), .val (.ref b1), .val (.ref b17), .val (.int (1 : Int32)), .val (.ref b62), .unset, .unset, .unset] [.null, (.ref b17), (.ref b62), .null, (.ref b1), .null, (.ref a69), (.ref a68), (.ref b67), (.ref b67)])) (fun t_ k_ => XS.aconstNull X69.here hx rfl (hb hby at_133) k_) ?_
      have Fz70 := ((A67.ext E68).ext E69)
      have Fz71 := ((Fid_67.ext E68).ext E69)
      have Fz72 := ((FtypeCode_67.ext E68).ext E69)
      have Fz73 := ((FtypeCodeRole_67.ext E68).ext E69)
      have Fz74 := ((FidTypeCode_67.ext E68).ext E69)
      have Fz75 := ((Fname_67.ext E68).ext E69)
      have Fz76 := ((Fquery_67.ext E68).ext E69)
      have Fz77 := ((Fdetails_67.ext E68).ext E69)
      have Fz78 := ((Fdescription_67.ext E68).ext E69)
      have Fz79 := (((((X18q.ext E62).keep K63q).ext E67).ext E68).ext E69)
      have Nz80 : b17 ≠ b62 := (Nat.ne_of_lt (Nat.lt_of_lt_of_le X18q.lt (Nat.le_of_eq g62.symm)))
      have Fz81 := (((((M18q.ext E62).keep K63q (ninS Nz80 nin0)).ext E67).ext E68).ext E69)
      have Fz82 := (((((S18q.ext E62).keep K63q (ninS Nz80 nin0)).ext E67).ext E68).ext E69)
      have Fz83 := ((((Xa62.keep K63q).ext E67).ext E68).ext E69)
      have Fz84 := (((A63r.ext E67).ext E68).ext E69)
      obtain ⟨_, _, ⟨T85, Lu85, ku85, nu85⟩, -, X85, hS85, hg85, ⟨Lc85, hQ85, lu85, yu85, zu85, C85⟩, st85⟩ := X69.specialBackS hx (y := (⟨"com/example/trailcaster/trailcaster/model/ParticipantObject", "<init>", "(Ljava/lang/String;Ljava/lang/String;Ljava/lang/String;Lcom/example/trailcaster/trailcaster/model/CodedValue;Ljava/lang/String;[BLjava/util/List;Lcom/example/trailcaster/trailcaster/model/DicomObjectDescription;)V"⟩ : MethodName)) rfl hown (mvT hZ (hw _ (List.mem_of_getElem? (i := 80) rfl))) (mvT hZ (hw _ (List.mem_of_getElem? (i := 81) rfl))) (mvT hZ (hw _ (List.mem_of_getElem? (i := 82) rfl))) (by decide) (backOfSH (W := 1) (rm_poB l Z a0 hw [] (b67) (a68) (b1) (b17) (a69) (t69) (kb69) (_) (b62) (k62) ((1 : Int32)) ([(.int (nar .byte (p2.toInt8.toInt32)))]) (cs0) (a_EM) (a_DF) (m_A) (m_L) (m_R) h69 O69 w Fz70 Fz71 Fz72 Fz73 Fz74 Fz75 Fz76 Fz77 Fz78 ge_b67 Fz79 Fz81 Fz82 A69 V69 B69 Fz83 Fz84 (by decide)) hZ (hw _ (List.mem_of_getElem? (i := 82) rfl)) (hw _ (List.mem_of_getElem? (i := 77) rfl)) (by decide) (by decide) hEW R69.1) (g := (mkF m 134 #[.val (.int p0), .val (.int p1), .val (.int p2), .val (.int p3), .val (.int p4), .val (.int p5), .val (.ref b1), .val (.ref b17), .val (.int (1 : Int32)), .val (.ref b62), .unset, .unset, .unset] [.null, (.ref b17), (.ref b62), .null, (.ref b1), .null, (.ref a69), (.ref a68), (.ref b67), (.ref b67)])) rfl (by rw [hml]; rfl) (Steps.refl _) (a := b67) (argsL := [(.ref a68), (.ref a69), .null, (.ref b1), .null, (.ref b62), (.ref b17), .null]) (rest := [(.ref b67)]) (lenOf own_pd18 rfl) rfl (by show 2 * 0 + _ ≤ _; exact Nat.le_of_eq rfl) (hb hby at_134) (fun _ _ => ⟨rfl, e69, (by decide : 20 + 14 ≤ _), (by decide : 187 + 189 ≤ _)⟩)
      dsimp only [Pt.U, Pt.locs, Pt.cells, Pt.slots] at X85 lu85 yu85 zu85 st85 hQ85 hS85 hg85 C85
      subst lu85 yu85 zu85
      obtain ⟨X85, hS, hZ, hown⟩ := rebS hS (by rw [show T69.heap = h69 from e69]; exact hk) X85 hS85 hg85 hZ hown
      have R85 := R69.trans C85
      obtain ⟨r85, rfl, N85q, K85q, u2_85, X85q, F85q, Y85q, A85q⟩ := hQ85
      have N85 := Fr.app N66 N85q
      have O85 := own_extK O69 K85q (allS ge_b67 all0)
      have KK85 : Keep h0 T85.heap [] := K69.trans K85q (allS (Or.inr sz_b67) all0)
      have Fz86 := (CC69.safe (A67.ext E68).lt (CC68.safe A67.lt Sf67))
      refine own_go (T85.setTop (mkF m 137 #[.val (.int p0), .val (.int p1), .val (.int p2), .val (.int p3), .val (.int p4), .val (.int p5), .val (.ref b1), .val (.ref b17), .val (.int (1 : Int32)), .val (.ref b62), .unset, .unset, .unset] [(.ref b67)])) (fun t_ k_ => st85.trans k_) ?_
      refine own_go (T85.setTop (mkF m 139 #[.val (.int p0), .val (.int p1), .val (.int p2), .val (.int p3), .val (.int p4), .val (.int p5), .val (.ref b1), .val (.ref b17), .val (.int (1 : Int32)), .val (.ref b62), .val (.ref b67), .unset, .unset] [])) (fun t_ k_ => XS.astore X85.here hx rfl (hb hby at_137) rfl rfl (l' := #[.val (.int p0), .val (.int p1), .val (.int p2), .val (.int p3), .val (.int p4), .val (.int p5), .val (.ref b1), .val (.ref b17), .val (.int (1 : Int32)), .val (.ref b62), .val (.ref b67), .unset, .unset]) rfl k_) ?_
      refine own_go (T85.setTop (mkF m 141 #[.val (.int p0), .val (.int p1), .val (.int p2), .val (.int p3), .val (.int p4), .val (.int p5), .val (.ref b1), .val (.ref b17), .val (.int (1 : Int32)), .val (.ref b62), .val (.ref b67), .unset, .unset] [(.ref b62)])) (fun t_ k_ => XS.aload X85.here hx rfl (hb hby at_139) rfl rfl k_) ?_
      refine own_go (T85.setTop (mkF m 142 #[.val (.int p0), .val (.int p1), .val (.int p2), .val (.int p3), .val (.int p4), .val (.int p5), .val (.ref b1), .val (.ref b17), .val (.int (1 : Int32)), .val (.ref b62), .val (.ref b67), .unset, .unset] [(.int (0 : Int32)), (.ref b62)])) (fun t_ k_ => XS.iconst X85.here hx rfl (hb hby at_141) k_) ?_
      have Nz87 : b62 ≠ b67 := (Nat.ne_of_lt (Nat.lt_of_lt_of_le (Xa62.keep K63q).lt (Nat.le_of_eq g67.symm)))
      have Fz88 := (Fz84.keep K85q (ninS Nz87 nin0))
      obtain ⟨_, _, ⟨T89, Lu89, ku89, nu89⟩, -, X89, ⟨Lc89, hQ89, lu89, yu89, zu89⟩, st89⟩ := Jvm.LawKit.callS X85 hx (y := (⟨"com/example/trailcaster/trailcaster/model/ParticipantObjectQueryPinLaw", "flip", "([BI)V"⟩ : MethodName)) hown (mvT hZ (hw _ (List.mem_of_getElem? (i := 216) rfl))) (mvT hZ (hw _ (List.mem_of_getElem? (i := 217) rfl))) (mvT hZ (hw _ (List.mem_of_getElem? (i := 73) rfl))) (mvT hZ (hw _ (List.mem_of_getElem? (i := 218) rfl))) (by decide) (backOf (W := 0) (rm_flipi l Z a0 hw [] (b62) (k62) ((1 : Int32)) ([(.int (nar .byte (p2.toInt8.toInt32)))]) ((0 : Int32)) (0) ((nar .byte (p2.toInt8.toInt32))) T85.heap O85 Fz88 (by decide) (by decide) rfl (Nat.le_of_ble_eq_true rfl) ge_b62 rfl) hZ (hw _ (List.mem_of_getElem? (i := 218) rfl)) (hw _ (List.mem_of_getElem? (i := 73) rfl)) (by decide) (by decide)) (g := (mkF m 142 #[.val (.int p0), .val (.int p1), .val (.int p2), .val (.int p3), .val (.int p4), .val (.int p5), .val (.ref b1), .val (.ref b17), .val (.int (1 : Int32)), .val (.ref b62), .val (.ref b67), .unset, .unset] [(.int (0 : Int32)), (.ref b62)])) rfl (by rw [hml]; rfl) (argsL := [(.ref b62), (.int (0 : Int32))]) (rest := []) (lenOf own_pd19 rfl) rfl (by show 2 * 0 + _ ≤ _; exact Nat.le_of_eq rfl) (hb hby at_142) (fun _ _ => ⟨rfl, rfl, (by decide : 34 + 0 ≤ _), (by decide : 376 + 0 ≤ _)⟩)
      dsimp only [Pt.U, Pt.locs, Pt.cells, Pt.slots] at X89 lu89 yu89 zu89 st89 hQ89
      subst lu89 yu89 zu89
      obtain ⟨rfl, N89q, K89q, A89q⟩ := hQ89
      have N89 := Fr.app N85 N89q
      have A89r : Arv Z T89.heap b62 k62 .byte (1 : Int32) [(.int (nar .byte ((((nar .byte (p2.toInt8.toInt32)) ^^^ (-1 : Int32)).toInt8.toInt32))))] (.int 0) := A89q
      have O89 := own_extK O85 K89q (allS ge_b62 all0)
      have KK89 : Keep h0 T89.heap [] := KK85.trans K89q (allS (Or.inr sz_b62) all0)
      have Fz90 := (C85.safe Fz83.lt (CC69.safe (((Xa62.keep K63q).ext E67).ext E68).lt (CC68.safe ((Xa62.keep K63q).ext E67).lt (Safe.ext E67 R63.1 (Safe.keep K63q (allS Sf62 all0) R62.1 Sf62)))))
      have R89 := R85.trans (CHr.keep K89q (allS Fz90 all0) R85.1)
      refine own_go (T89.setTop (mkF m 145 #[.val (.int p0), .val (.int p1), .val (.int p2), .val (.int p3), .val (.int p4), .val (.int p5), .val (.ref b1), .val (.ref b17), .val (.int (1 : Int32)), .val (.ref b62), .val (.ref b67), .unset, .unset] [])) (fun t_ k_ => st89 _ k_) ?_
      refine own_go (T89.setTop (mkF m 147 #[.val (.int p0), .val (.int p1), .val (.int p2), .val (.int p3), .val (.int p4), .val (.int p5), .val (.ref b1), .val (.ref b17), .val (.int (1 : Int32)), .val (.ref b62), .val (.ref b67), .unset, .unset] [(.ref b62)])) (fun t_ k_ => XS.aload X89.here hx rfl (hb hby at_145) rfl rfl k_) ?_
      refine own_go (T89.setTop (mkF m 148 #[.val (.int p0), .val (.int p1), .val (.int p2), .val (.int p3), .val (.int p4), .val (.int p5), .val (.ref b1), .val (.ref b17), .val (.int (1 : Int32)), .val (.ref b62), .val (.ref b67), .unset, .unset] [(.int (1 : Int32)), (.ref b62)])) (fun t_ k_ => XS.iconst X89.here hx rfl (hb hby at_147) k_) ?_
      obtain ⟨_, _, ⟨T91, Lu91, ku91, nu91⟩, -, X91, ⟨Lc91, hQ91, lu91, yu91, zu91⟩, st91⟩ := Jvm.LawKit.callS X89 hx (y := (⟨"com/example/trailcaster/trailcaster/model/ParticipantObjectQueryPinLaw", "flip", "([BI)V"⟩ : MethodName)) hown (mvT hZ (hw _ (List.mem_of_getElem? (i := 216) rfl))) (mvT hZ (hw _ (List.mem_of_getElem? (i := 217) rfl))) (mvT hZ (hw _ (List.mem_of_getElem? (i := 73) rfl))) (mvT hZ (hw _ (List.mem_of_getElem? (i := 218) rfl))) (by decide) (backOf (W := 0) (rm_flipo l Z a0 hw [] (b62) (k62) ((1 : Int32)) ([(.int (nar .byte ((((nar .byte (p2.toInt8.toInt32)) ^^^ (-1 : Int32)).toInt8.toInt32))))]) ((1 : Int32)) T89.heap O89 A89r (by decide)) hZ (hw _ (List.mem_of_getElem? (i := 218) rfl)) (hw _ (List.mem_of_getElem? (i := 73) rfl)) (by decide) (by decide)) (g := (mkF m 148 #[.val (.int p0), .val (.int p1), .val (.int p2), .val (.int p3), .val (.int p4), .val (.int p5), .val (.ref b1), .val (.ref b17), .val (.int (1 : Int32)), .val (.ref b62), .val (.ref b67), .unset, .unset] [(.int (1 : Int32)), (.ref b62)])) rfl (by rw [hml]; rfl) (argsL := [(.ref b62), (.int (1 : Int32))]) (rest := []) (lenOf own_pd19 rfl) rfl (by show 2 * 0 + _ ≤ _; exact Nat.le_of_eq rfl) (hb hby at_148) (fun _ _ => ⟨rfl, rfl, (by decide : 34 + 0 ≤ _), (by decide : 376 + 0 ≤ _)⟩)
      dsimp only [Pt.U, Pt.locs, Pt.cells, Pt.slots] at X91 lu91 yu91 zu91 st91 hQ91
      subst lu91 yu91 zu91
      obtain ⟨rfl, N91q, e91⟩ := hQ91
      have N91 := Fr.app N89 N91q
      refine own_go (T91.setTop (mkF m 151 #[.val (.int p0), .val (.int p1), .val (.int p2), .val (.int p3), .val (.int p4), .val (.int p5), .val (.ref b1), .val (.ref b17), .val (.int (1 : Int32)), .val (.ref b62), .val (.ref b67), .unset, .unset] [])) (fun t_ k_ => st91 _ k_) ?_
      refine own_go (T91.setTop (mkF m 153 #[.val (.int p0), .val (.int p1), .val (.int p2), .val (.int p3), .val (.int p4), .val (.int p5), .val (.ref b1), .val (.ref b17), .val (.int (1 : Int32)), .val (.ref b62), .val (.ref b67), .unset, .unset] [(.ref b62)])) (fun t_ k_ => XS.aload X91.here hx rfl (hb hby at_151) rfl rfl k_) ?_
      refine own_go (T91.setTop (mkF m 154 #[.val (.int p0), .val (.int p1), .val (.int p2), .val (.int p3), .val (.int p4), .val (.int p5), .val (.ref b1), .val (.ref b17), .val (.int (1 : Int32)), .val (.ref b62), .val (.ref b67), .unset, .unset] [(.int (2 : Int32)), (.ref b62)])) (fun t_ k_ => XS.iconst X91.here hx rfl (hb hby at_153) k_) ?_
      obtain ⟨_, _, ⟨T92, Lu92, ku92, nu92⟩, -, X92, ⟨Lc92, hQ92, lu92, yu92, zu92⟩, st92⟩ := Jvm.LawKit.callS X91 hx (y := (⟨"com/example/trailcaster/trailcaster/model/ParticipantObjectQueryPinLaw", "flip", "([BI)V"⟩ : MethodName)) hown (mvT hZ (hw _ (List.mem_of_getElem? (i := 216) rfl))) (mvT hZ (hw _ (List.mem_of_getElem? (i := 217) rfl))) (mvT hZ (hw _ (List.mem_of_getElem? (i := 73) rfl))) (mvT hZ (hw _ (List.mem_of_getElem? (i := 218) rfl))) (by decide) (backOf (W := 0) (rm_flipo l Z a0 hw [] (b62) (k62) ((1 : Int32)) ([(.int (nar .byte ((((nar .byte (p2.toInt8.toInt32)) ^^^ (-1 : Int32)).toInt8.toInt32))))]) ((2 : Int32)) T89.heap O89 A89r (by decide)) hZ (hw _ (List.mem_of_getElem? (i := 218) rfl)) (hw _ (List.mem_of_getElem? (i := 73) rfl)) (by decide) (by decide)) (g := (mkF m 154 #[.val (.int p0), .val (.int p1), .val (.int p2), .val (.int p3), .val (.int p4), .val (.int p5), .val (.ref b1), .val (.ref b17), .val (.int (1 : Int32)), .val (.ref b62), .val (.ref b67), .unset, .unset] [(.int (2 : Int32)), (.ref b62)])) rfl (by rw [hml]; rfl) (argsL := [(.ref b62), (.int (2 : Int32))]) (rest := []) (lenOf own_pd19 rfl) rfl (by show 2 * 0 + _ ≤ _; exact Nat.le_of_eq rfl) (hb hby at_154) (fun _ _ => ⟨rfl, e91, (by decide : 34 + 0 ≤ _), (by decide : 376 + 0 ≤ _)⟩)
      dsimp only [Pt.U, Pt.locs, Pt.cells, Pt.slots] at X92 lu92 yu92 zu92 st92 hQ92
      subst lu92 yu92 zu92
      obtain ⟨rfl, N92q, e92⟩ := hQ92
      have N92 := Fr.app N91 N92q
      refine own_go (T92.setTop (mkF m 157 #[.val (.int p0), .val (.int p1), .val (.int p2), .val (.int p3), .val (.int p4), .val (.int p5), .val (.ref b1), .val (.ref b17), .val (.int (1 : Int32)), .val (.ref b62), .val (.ref b67), .unset, .unset] [])) (fun t_ k_ => st92 _ k_) ?_
      refine own_go (T92.setTop (mkF m 159 #[.val (.int p0), .val (.int p1), .val (.int p2), .val (.int p3), .val (.int p4), .val (.int p5), .val (.ref b1), .val (.ref b17), .val (.int (1 : Int32)), .val (.ref b62), .val (.ref b67), .unset, .unset] [(.ref b62)])) (fun t_ k_ => XS.aload X92.here hx rfl (hb hby at_157) rfl rfl k_) ?_
      refine own_go (T92.setTop (mkF m 160 #[.val (.int p0), .val (.int p1), .val (.int p2), .val (.int p3), .val (.int p4), .val (.int p5), .val (.ref b1), .val (.ref b17), .val (.int (1 : Int32)), .val (.ref b62), .val (.ref b67), .unset, .unset] [(.int (3 : Int32)), (.ref b62)])) (fun t_ k_ => XS.iconst X92.here hx rfl (hb hby at_159) k_) ?_
      obtain ⟨_, _, ⟨T93, Lu93, ku93, nu93⟩, -, X93, ⟨Lc93, hQ93, lu93, yu93, zu93⟩, st93⟩ := Jvm.LawKit.callS X92 hx (y := (⟨"com/example/trailcaster/trailcaster/model/ParticipantObjectQueryPinLaw", "flip", "([BI)V"⟩ : MethodName)) hown (mvT hZ (hw _ (List.mem_of_getElem? (i := 216) rfl))) (mvT hZ (hw _ (List.mem_of_getElem? (i := 217) rfl))) (mvT hZ (hw _ (List.mem_of_getElem? (i := 73) rfl))) (mvT hZ (hw _ (List.mem_of_getElem? (i := 218) rfl))) (by decide) (backOf (W := 0) (rm_flipo l Z a0 hw [] (b62) (k62) ((1 : Int32)) ([(.int (nar .byte ((((nar .byte (p2.toInt8.toInt32)) ^^^ (-1 : Int32)).toInt8.toInt32))))]) ((3 : Int32)) T89.heap O89 A89r (by decide)) hZ (hw _ (List.mem_of_getElem? (i := 218) rfl)) (hw _ (List.mem_of_getElem? (i := 73) rfl)) (by decide) (by decide)) (g := (mkF m 160 #[.val (.int p0), .val (.int p1), .val (.int p2), .val (.int p3), .val (.int p4), .val (.int p5), .val (.ref b1), .val (.ref b17), .val (.int (1 : Int32)), .val (.ref b62), .val (.ref b67), .unset, .unset] [(.int (3 : Int32)), (.ref b62)])) rfl (by rw [hml]; rfl) (argsL := [(.ref b62), (.int (3 : Int32))]) (rest := []) (lenOf own_pd19 rfl) rfl (by show 2 * 0 + _ ≤ _; exact Nat.le_of_eq rfl) (hb hby at_160) (fun _ _ => ⟨rfl, e92, (by decide : 34 + 0 ≤ _), (by decide : 376 + 0 ≤ _)⟩)
      dsimp only [Pt.U, Pt.locs, Pt.cells, Pt.slots] at X93 lu93 yu93 zu93 st93 hQ93
      subst lu93 yu93 zu93
      obtain ⟨rfl, N93q, e93⟩ := hQ93
      have N93 := Fr.app N92 N93q
      refine own_go (T93.setTop (mkF m 163 #[.val (.int p0), .val (.int p1), .val (.int p2), .val (.int p3), .val (.int p4), .val (.int p5), .val (.ref b1), .val (.ref b17), .val (.int (1 : Int32)), .val (.ref b62), .val (.ref b67), .unset, .unset] [])) (fun t_ k_ => st93 _ k_) ?_
      refine own_go (T93.setTop (mkF m 165 #[.val (.int p0), .val (.int p1), .val (.int p2), .val (.int p3), .val (.int p4), .val (.int p5), .val (.ref b1), .val (.ref b17), .val (.int (1 : Int32)), .val (.ref b62), .val (.ref b67), .unset, .unset] [(.ref b67)])) (fun t_ k_ => XS.aload X93.here hx rfl (hb hby at_163) rfl rfl k_) ?_
      have Fz94 := (F85q.keep K89q (ninS (Ne.symm Nz87) nin0))
      have Fz95 := (Y85q.keep K89q)
      have Nz96 : b62 ≠ r85 := (Nat.ne_of_lt (Nat.lt_of_lt_of_le Fz83.lt u2_85))
      have Fz97 := (A85q.keep K89q (ninS (Ne.symm Nz96) nin0))
      have Fz99 := (X85q.keep K89q)
      obtain ⟨cq98, kq98, q98a, q98b, q98c⟩ := isOf hZ e93 Fz99
      obtain ⟨_, _, ⟨T98, Lu98, ku98, nu98⟩, -, X98, ⟨Lc98, hQ98, lu98, yu98, zu98⟩, st98⟩ := X93.virtualBack hx (y := (⟨"com/example/trailcaster/trailcaster/model/ParticipantObject", "query", "()[B"⟩ : MethodName)) (z := (⟨"com/example/trailcaster/trailcaster/model/ParticipantObject", "query", "()[B"⟩ : MethodName)) hown (mvT hZ (hw _ (List.mem_of_getElem? (i := 219) rfl))) (mvT hZ (hw _ (List.mem_of_getElem? (i := 220) rfl))) (notFace_of_selects (args := #[]) (mvT hZ (hw _ (List.mem_of_getElem? (i := 222) rfl)))) (mvT hZ (hw _ (List.mem_of_getElem? (i := 222) rfl))) (mvT hZ (hw _ (List.mem_of_getElem? (i := 221) rfl))) (by decide) (backOf (W := 0) (rm_qyB l Z a0 hw [] (b67) (r85) (k62) ((1 : Int32)) ([(.int (nar .byte (p2.toInt8.toInt32)))]) T89.heap O89 Fz94 Fz95 Fz97 (by decide)) hZ (hw _ (List.mem_of_getElem? (i := 223) rfl)) (hw _ (List.mem_of_getElem? (i := 77) rfl)) (by decide) (by decide)) q98a q98c (g := (mkF m 165 #[.val (.int p0), .val (.int p1), .val (.int p2), .val (.int p3), .val (.int p4), .val (.int p5), .val (.ref b1), .val (.ref b17), .val (.int (1 : Int32)), .val (.ref b62), .val (.ref b67), .unset, .unset] [(.ref b67)])) rfl (by rw [hml]; rfl) (Steps.refl _) (argsL := []) (rest := []) (lenOf own_pd20 rfl) rfl (by show 2 * 0 + _ ≤ _; exact Nat.le_of_eq rfl) (hb hby at_165) (fun _ _ => ⟨rfl, e93, (by decide : 34 + 1 ≤ _), (by decide : 376 + 4 ≤ _)⟩)
      dsimp only [Pt.U, Pt.locs, Pt.cells, Pt.slots] at X98 lu98 yu98 zu98 st98 hQ98
      subst lu98 yu98 zu98
      obtain ⟨r98, rfl, N98q, K98q, u2_98, A98q⟩ := hQ98
      have N98 := Fr.app N93 N98q
      have Sn98 := own_snew R89.1 u2_98
      have O98 := own_extK O89 K98q all0
      have KK98 : Keep h0 T98.heap [] := KK89.trans K98q all0
      have R98 := R89.trans (CHr.keep K98q all0 R89.1)
      refine own_go (T98.setTop (mkF m 168 #[.val (.int p0), .val (.int p1), .val (.int p2), .val (.int p3), .val (.int p4), .val (.int p5), .val (.ref b1), .val (.ref b17), .val (.int (1 : Int32)), .val (.ref b62), .val (.ref b67), .unset, .unset] [(.ref r98)])) (fun t_ k_ => st98.trans k_) ?_
      refine own_go (T98.setTop (mkF m 170 #[.val (.int p0), .val (.int p1), .val (.int p2), .val (.int p3), .val (.int p4), .val (.int p5), .val (.ref b1), .val (.ref b17), .val (.int (1 : Int32)), .val (.ref b62), .val (.ref b67), .val (.ref r98), .unset] [])) (fun t_ k_ => XS.astore X98.here hx rfl (hb hby at_168) rfl rfl (l' := #[.val (.int p0), .val (.int p1), .val (.int p2), .val (.int p3), .val (.int p4), .val (.int p5), .val (.ref b1), .val (.ref b17), .val (.int (1 : Int32)), .val (.ref b62), .val (.ref b67), .val (.ref r98), .unset]) rfl k_) ?_
      refine own_go (T98.setTop (mkF m 172 #[.val (.int p0), .val (.int p1), .val (.int p2), .val (.int p3), .val (.int p4), .val (.int p5), .val (.ref b1), .val (.ref b17), .val (.int (1 : Int32)), .val (.ref b62), .val (.ref b67), .val (.ref r98), .unset] [(.ref r98)])) (fun t_ k_ => XS.aload X98.here hx rfl (hb hby at_170) rfl rfl k_) ?_
      refine own_go (T98.setTop (mkF m 175 #[.val (.int p0), .val (.int p1), .val (.int p2), .val (.int p3), .val (.int p4), .val (.int p5), .val (.ref b1), .val (.ref b17), .val (.int (1 : Int32)), .val (.ref b62), .val (.ref b67), .val (.ref r98), .unset] [])) (fun t_ k_ => XS.ifnullNo X98.here hx rfl (hb hby at_172) rfl k_) ?_
      refine own_go (T98.setTop (mkF m 177 #[.val (.int p0), .val (.int p1), .val (.int p2), .val (.int p3), .val (.int p4), .val (.int p5), .val (.ref b1), .val (.ref b17), .val (.int (1 : Int32)), .val (.ref b62), .val (.ref b67), .val (.ref r98), .unset] [(.ref r98)])) (fun t_ k_ => XS.aload X98.here hx rfl (hb hby at_175) rfl rfl k_) ?_
      refine own_go (T98.setTop (mkF m 179 #[.val (.int p0), .val (.int p1), .val (.int p2), .val (.int p3), .val (.int p4), .val (.int p5), .val (.ref b1), .val (.ref b17), .val (.int (1 : Int32)), .val (.ref b62), .val (.ref b67), .val (.ref r98), .unset] [(.int (1 : Int32)), (.ref r98)])) (fun t_ k_ => XS.iload X98.here hx rfl (hb hby at_177) rfl k_) ?_
      refine own_go (T98.setTop (mkF m 180 #[.val (.int p0), .val (.int p1), .val (.int p2), .val (.int p3), .val (.int p4), .val (.int p5), .val (.ref b1), .val (.ref b17), .val (.int (1 : Int32)), .val (.ref b62), .val (.ref b67), .val (.ref r98), .unset] [(.int p2), (.int (1 : Int32)), (.ref r98)])) (fun t_ k_ => XS.iloadN X98.here hx rfl (hb hby at_179) rfl k_) ?_
      refine own_go (T98.setTop (mkF m 181 #[.val (.int p0), .val (.int p1), .val (.int p2), .val (.int p3), .val (.int p4), .val (.int p5), .val (.ref b1), .val (.ref b17), .val (.int (1 : Int32)), .val (.ref b62), .val (.ref b67), .val (.ref r98), .unset] [(.int p3), (.int p2), (.int (1 : Int32)), (.ref r98)])) (fun t_ k_ => XS.iloadN X98.here hx rfl (hb hby at_180) rfl k_) ?_
      refine own_go (T98.setTop (mkF m 183 #[.val (.int p0), .val (.int p1), .val (.int p2), .val (.int p3), .val (.int p4), .val (.int p5), .val (.ref b1), .val (.ref b17), .val (.int (1 : Int32)), .val (.ref b62), .val (.ref b67), .val (.ref r98), .unset] [(.int p4), (.int p3), (.int p2), (.int (1 : Int32)), (.ref r98)])) (fun t_ k_ => XS.iload X98.here hx rfl (hb hby at_181) rfl k_) ?_
      refine own_go (T98.setTop (mkF m 185 #[.val (.int p0), .val (.int p1), .val (.int p2), .val (.int p3), .val (.int p4), .val (.int p5), .val (.ref b1), .val (.ref b17), .val (.int (1 : Int32)), .val (.ref b62), .val (.ref b67), .val (.ref r98), .unset] [(.int p5), (.int p4), (.int p3), (.int p2), (.int (1 : Int32)), (.ref r98)])) (fun t_ k_ => XS.iload X98.here hx rfl (hb hby at_183) rfl k_) ?_
      obtain ⟨_, _, ⟨T100, Lu100, ku100, nu100⟩, -, X100, ⟨Lc100, hQ100, lu100, yu100, zu100⟩, st100⟩ := Jvm.LawKit.callS X98 hx (y := (⟨"com/example/trailcaster/trailcaster/model/ParticipantObjectQueryPinLaw", "same", "([BIIIII)Z"⟩ : MethodName)) hown (mvT hZ (hw _ (List.mem_of_getElem? (i := 224) rfl))) (mvT hZ (hw _ (List.mem_of_getElem? (i := 225) rfl))) (mvT hZ (hw _ (List.mem_of_getElem? (i := 73) rfl))) (mvT hZ (hw _ (List.mem_of_getElem? (i := 226) rfl))) (by decide) (backOf (W := 0) (rm_same1 l Z a0 hw [] (r98) (k62) (p2) (p3) (p4) (p5) T98.heap O98 A98q) hZ (hw _ (List.mem_of_getElem? (i := 226) rfl)) (hw _ (List.mem_of_getElem? (i := 73) rfl)) (by decide) (by decide)) (g := (mkF m 185 #[.val (.int p0), .val (.int p1), .val (.int p2), .val (.int p3), .val (.int p4), .val (.int p5), .val (.ref b1), .val (.ref b17), .val (.int (1 : Int32)), .val (.ref b62), .val (.ref b67), .val (.ref r98), .unset] [(.int p5), (.int p4), (.int p3), (.int p2), (.int (1 : Int32)), (.ref r98)])) rfl (by rw [hml]; rfl) (argsL := [(.ref r98), (.int (1 : Int32)), (.int p2), (.int p3), (.int p4), (.int p5)]) (rest := []) (lenOf own_pd21 rfl) rfl (by show 2 * 0 + _ ≤ _; exact Nat.le_of_eq rfl) (hb hby at_185) (fun _ _ => ⟨rfl, rfl, (by decide : 35 + 0 ≤ _), (by decide : 380 + 0 ≤ _)⟩)
      dsimp only [Pt.U, Pt.locs, Pt.cells, Pt.slots] at X100 lu100 yu100 zu100 st100 hQ100
      subst lu100 yu100 zu100
      obtain ⟨rfl, N100q, e100⟩ := hQ100
      have N100 := Fr.app N98 N100q
      refine own_go (T100.setTop (mkF m 188 #[.val (.int p0), .val (.int p1), .val (.int p2), .val (.int p3), .val (.int p4), .val (.int p5), .val (.ref b1), .val (.ref b17), .val (.int (1 : Int32)), .val (.ref b62), .val (.ref b67), .val (.ref r98), .unset] [(.int (1 : Int32))])) (fun t_ k_ => st100 _ k_) ?_
      refine own_go (T100.setTop (mkF m 193 #[.val (.int p0), .val (.int p1), .val (.int p2), .val (.int p3), .val (.int p4), .val (.int p5), .val (.ref b1), .val (.ref b17), .val (.int (1 : Int32)), .val (.ref b62), .val (.ref b67), .val (.ref r98), .unset] [])) (fun t_ k_ => XS.ifYes X100.here hx rfl (pc0 := 188) (pc' := 193) rfl (hb hby at_188) rfl ((if0 _ _).trans (feq (by decide : ¬ ((1 : Int32) = (0 : Int32)))).2) (by decide) (by decide) k_) ?_
      refine own_go (T100.setTop (mkF m 195 #[.val (.int p0), .val (.int p1), .val (.int p2), .val (.int p3), .val (.int p4), .val (.int p5), .val (.ref b1), .val (.ref b17), .val (.int (1 : Int32)), .val (.ref b62), .val (.ref b67), .val (.ref r98), .unset] [(.ref r98)])) (fun t_ k_ => XS.aload X100.here hx rfl (hb hby at_193) rfl rfl k_) ?_
      refine own_go (T100.setTop (mkF m 196 #[.val (.int p0), .val (.int p1), .val (.int p2), .val (.int p3), .val (.int p4), .val (.int p5), .val (.ref b1), .val (.ref b17), .val (.int (1 : Int32)), .val (.ref b62), .val (.ref b67), .val (.ref r98), .unset] [(.int (0 : Int32)), (.ref r98)])) (fun t_ k_ => XS.iconst X100.here hx rfl (hb hby at_195) k_) ?_
      obtain ⟨_, _, ⟨T101, Lu101, ku101, nu101⟩, -, X101, ⟨Lc101, hQ101, lu101, yu101, zu101⟩, st101⟩ := Jvm.LawKit.callS X100 hx (y := (⟨"com/example/trailcaster/trailcaster/model/ParticipantObjectQueryPinLaw", "flip", "([BI)V"⟩ : MethodName)) hown (mvT hZ (hw _ (List.mem_of_getElem? (i := 216) rfl))) (mvT hZ (hw _ (List.mem_of_getElem? (i := 217) rfl))) (mvT hZ (hw _ (List.mem_of_getElem? (i := 73) rfl))) (mvT hZ (hw _ (List.mem_of_getElem? (i := 218) rfl))) (by decide) (backOf (W := 0) (rm_flipi l Z a0 hw [] (r98) (k62) ((1 : Int32)) ([(.int (nar .byte (p2.toInt8.toInt32)))]) ((0 : Int32)) (0) ((nar .byte (p2.toInt8.toInt32))) T98.heap O98 A98q (by decide) (by decide) rfl (Nat.le_of_ble_eq_true rfl) (Nat.le_trans O89.1 u2_98) rfl) hZ (hw _ (List.mem_of_getElem? (i := 218) rfl)) (hw _ (List.mem_of_getElem? (i := 73) rfl)) (by decide) (by decide)) (g := (mkF m 196 #[.val (.int p0), .val (.int p1), .val (.int p2), .val (.int p3), .val (.int p4), .val (.int p5), .val (.ref b1), .val (.ref b17), .val (.int (1 : Int32)), .val (.ref b62), .val (.ref b67), .val (.ref r98), .unset] [(.int (0 : Int32)), (.ref r98)])) rfl (by rw [hml]; rfl) (argsL := [(.ref r98), (.int (0 : Int32))]) (rest := []) (lenOf own_pd19 rfl) rfl (by show 2 * 0 + _ ≤ _; exact Nat.le_of_eq rfl) (hb hby at_196) (fun _ _ => ⟨rfl, e100, (by decide : 35 + 0 ≤ _), (by decide : 380 + 0 ≤ _)⟩)
      dsimp only [Pt.U, Pt.locs, Pt.cells, Pt.slots] at X101 lu101 yu101 zu101 st101 hQ101
      subst lu101 yu101 zu101
      obtain ⟨rfl, N101q, K101q, A101q⟩ := hQ101
      have N101 := Fr.app N100 N101q
      have A101r : Arv Z T101.heap r98 k62 .byte (1 : Int32) [(.int (nar .byte ((((nar .byte (p2.toInt8.toInt32)) ^^^ (-1 : Int32)).toInt8.toInt32))))] (.int 0) := A101q
      have O101 := own_extK O98 K101q (allS (Nat.le_trans O89.1 u2_98) all0)
      have KK101 : Keep h0 T101.heap [] := KK98.trans K101q (allS (Or.inr (Nat.le_trans KK89.1 u2_98)) all0)
      have Fz102 := (Safe.keep K98q all0 R89.1 Sn98)
      have R101 := R98.trans (CHr.keep K101q (allS Fz102 all0) R98.1)
      refine own_go (T101.setTop (mkF m 199 #[.val (.int p0), .val (.int p1), .val (.int p2), .val (.int p3), .val (.int p4), .val (.int p5), .val (.ref b1), .val (.ref b17), .val (.int (1 : Int32)), .val (.ref b62), .val (.ref b67), .val (.ref r98), .unset] [])) (fun t_ k_ => st101 _ k_) ?_
      refine own_go (T101.setTop (mkF m 201 #[.val (.int p0), .val (.int p1), .val (.int p2), .val (.int p3), .val (.int p4), .val (.int p5), .val (.ref b1), .val (.ref b17), .val (.int (1 : Int32)), .val (.ref b62), .val (.ref b67), .val (.ref r98), .unset] [(.ref r98)])) (fun t_ k_ => XS.aload X101.here hx rfl (hb hby at_199) rfl rfl k_) ?_
      refine own_go (T101.setTop (mkF m 202 #[.val (.int p0), .val (.int p1), .val (.int p2), .val (.int p3), .val (.int p4), .val (.int p5), .val (.ref b1), .val (.ref b17), .val (.int (1 : Int32)), .val (.ref b62), .val (.ref b67), .val (.ref r98), .unset] [(.int (1 : Int32)), (.ref r98)])) (fun t_ k_ => XS.iconst X101.here hx rfl (hb hby at_201) k_) ?_
      obtain ⟨_, _, ⟨T103, Lu103, ku103, nu103⟩, -, X103, ⟨Lc103, hQ103, lu103, yu103, zu103⟩, st103⟩ := Jvm.LawKit.callS X101 hx (y := (⟨"com/example/trailcaster/trailcaster/model/ParticipantObjectQueryPinLaw", "flip", "([BI)V"⟩ : MethodName)) hown (mvT hZ (hw _ (List.mem_of_getElem? (i := 216) rfl))) (mvT hZ (hw _ (List.mem_of_getElem? (i := 217) rfl))) (mvT hZ (hw _ (List.mem_of_getElem? (i := 73) rfl))) (mvT hZ (hw _ (List.mem_of_getElem? (i := 218) rfl))) (by decide) (backOf (W := 0) (rm_flipo l Z a0 hw [] (r98) (k62) ((1 : Int32)) ([(.int (nar .byte ((((nar .byte (p2.toInt8.toInt32)) ^^^ (-1 : Int32)).toInt8.toInt32))))]) ((1 : Int32)) T101.heap O101 A101r (by decide)) hZ (hw _ (List.mem_of_getElem? (i := 218) rfl)) (hw _ (List.mem_of_getElem? (i := 73) rfl)) (by decide) (by decide)) (g := (mkF m 202 #[.val (.int p0), .val (.int p1), .val (.int p2), .val (.int p3), .val (.int p4), .val (.int p5), .val (.ref b1), .val (.ref b17), .val (.int (1 : Int32)), .val (.ref b62), .val (.ref b67), .val (.ref r98), .unset] [(.int (1 : Int32)), (.ref r98)])) rfl (by rw [hml]; rfl) (argsL := [(.ref r98), (.int (1 : Int32))]) (rest := []) (lenOf own_pd19 rfl) rfl (by show 2 * 0 + _ ≤ _; exact Nat.le_of_eq rfl) (hb hby at_202) (fun _ _ => ⟨rfl, rfl, (by decide : 35 + 0 ≤ _), (by decide : 380 + 0 ≤ _)⟩)
      dsimp only [Pt.U, Pt.locs, Pt.cells, Pt.slots] at X103 lu103 yu103 zu103 st103 hQ103
      subst lu103 yu103 zu103
      obtain ⟨rfl, N103q, e103⟩ := hQ103
      have N103 := Fr.app N101 N103q
      refine own_go (T103.setTop (mkF m 205 #[.val (.int p0), .val (.int p1), .val (.int p2), .val (.int p3), .val (.int p4), .val (.int p5), .val (.ref b1), .val (.ref b17), .val (.int (1 : Int32)), .val (.ref b62), .val (.ref b67), .val (.ref r98), .unset] [])) (fun t_ k_ => st103 _ k_) ?_
      refine own_go (T103.setTop (mkF m 207 #[.val (.int p0), .val (.int p1), .val (.int p2), .val (.int p3), .val (.int p4), .val (.int p5), .val (.ref b1), .val (.ref b17), .val (.int (1 : Int32)), .val (.ref b62), .val (.ref b67), .val (.ref r98), .unset] [(.ref r98)])) (fun t_ k_ => XS.aload X103.here hx rfl (hb hby at_205) rfl rfl k_) ?_
      refine own_go (T103.setTop (mkF m 208 #[.val (.int p0), .val (.int p1), .val (.int p2), .val (.int p3), .val (.int p4), .val (.int p5), .val (.ref b1), .val (.ref b17), .val (.int (1 : Int32)), .val (.ref b62), .val (.ref b67), .val (.ref r98), .unset] [(.int (2 : Int32)), (.ref r98)])) (fun t_ k_ => XS.iconst X103.here hx rfl (hb hby at_207) k_) ?_
      obtain ⟨_, _, ⟨T104, Lu104, ku104, nu104⟩, -, X104, ⟨Lc104, hQ104, lu104, yu104, zu104⟩, st104⟩ := Jvm.LawKit.callS X103 hx (y := (⟨"com/example/trailcaster/trailcaster/model/ParticipantObjectQueryPinLaw", "flip", "([BI)V"⟩ : MethodName)) hown (mvT hZ (hw _ (List.mem_of_getElem? (i := 216) rfl))) (mvT hZ (hw _ (List.mem_of_getElem? (i := 217) rfl))) (mvT hZ (hw _ (List.mem_of_getElem? (i := 73) rfl))) (mvT hZ (hw _ (List.mem_of_getElem? (i := 218) rfl))) (by decide) (backOf (W := 0) (rm_flipo l Z a0 hw [] (r98) (k62) ((1 : Int32)) ([(.int (nar .byte ((((nar .byte (p2.toInt8.toInt32)) ^^^ (-1 : Int32)).toInt8.toInt32))))]) ((2 : Int32)) T101.heap O101 A101r (by decide)) hZ (hw _ (List.mem_of_getElem? (i := 218) rfl)) (hw _ (List.mem_of_getElem? (i := 73) rfl)) (by decide) (by decide)) (g := (mkF m 208 #[.val (.int p0), .val (.int p1), .val (.int p2), .val (.int p3), .val (.int p4), .val (.int p5), .val (.ref b1), .val (.ref b17), .val (.int (1 : Int32)), .val (.ref b62), .val (.ref b67), .val (.ref r98), .unset] [(.int (2 : Int32)), (.ref r98)])) rfl (by rw [hml]; rfl) (argsL := [(.ref r98), (.int (2 : Int32))]) (rest := []) (lenOf own_pd19 rfl) rfl (by show 2 * 0 + _ ≤ _; exact Nat.le_of_eq rfl) (hb hby at_208) (fun _ _ => ⟨rfl, e103, (by decide : 35 + 0 ≤ _), (by decide : 380 + 0 ≤ _)⟩)
      dsimp only [Pt.U, Pt.locs, Pt.cells, Pt.slots] at X104 lu104 yu104 zu104 st104 hQ104
      subst lu104 yu104 zu104
      obtain ⟨rfl, N104q, e104⟩ := hQ104
      have N104 := Fr.app N103 N104q
      refine own_go (T104.setTop (mkF m 211 #[.val (.int p0), .val (.int p1), .val (.int p2), .val (.int p3), .val (.int p4), .val (.int p5), .val (.ref b1), .val (.ref b17), .val (.int (1 : Int32)), .val (.ref b62), .val (.ref b67), .val (.ref r98), .unset] [])) (fun t_ k_ => st104 _ k_) ?_
      refine own_go (T104.setTop (mkF m 213 #[.val (.int p0), .val (.int p1), .val (.int p2), .val (.int p3), .val (.int p4), .val (.int p5), .val (.ref b1), .val (.ref b17), .val (.int (1 : Int32)), .val (.ref b62), .val (.ref b67), .val (.ref r98), .unset] [(.ref r98)])) (fun t_ k_ => XS.aload X104.here hx rfl (hb hby at_211) rfl rfl k_) ?_
      refine own_go (T104.setTop (mkF m 214 #[.val (.int p0), .val (.int p1), .val (.int p2), .val (.int p3), .val (.int p4), .val (.int p5), .val (.ref b1), .val (.ref b17), .val (.int (1 : Int32)), .val (.ref b62), .val (.ref b67), .val (.ref r98), .unset] [(.int (3 : Int32)), (.ref r98)])) (fun t_ k_ => XS.iconst X104.here hx rfl (hb hby at_213) k_) ?_
      obtain ⟨_, _, ⟨T105, Lu105, ku105, nu105⟩, -, X105, ⟨Lc105, hQ105, lu105, yu105, zu105⟩, st105⟩ := Jvm.LawKit.callS X104 hx (y := (⟨"com/example/trailcaster/trailcaster/model/ParticipantObjectQueryPinLaw", "flip", "([BI)V"⟩ : MethodName)) hown (mvT hZ (hw _ (List.mem_of_getElem? (i := 216) rfl))) (mvT hZ (hw _ (List.mem_of_getElem? (i := 217) rfl))) (mvT hZ (hw _ (List.mem_of_getElem? (i := 73) rfl))) (mvT hZ (hw _ (List.mem_of_getElem? (i := 218) rfl))) (by decide) (backOf (W := 0) (rm_flipo l Z a0 hw [] (r98) (k62) ((1 : Int32)) ([(.int (nar .byte ((((nar .byte (p2.toInt8.toInt32)) ^^^ (-1 : Int32)).toInt8.toInt32))))]) ((3 : Int32)) T101.heap O101 A101r (by decide)) hZ (hw _ (List.mem_of_getElem? (i := 218) rfl)) (hw _ (List.mem_of_getElem? (i := 73) rfl)) (by decide) (by decide)) (g := (mkF m 214 #[.val (.int p0), .val (.int p1), .val (.int p2), .val (.int p3), .val (.int p4), .val (.int p5), .val (.ref b1), .val (.ref b17), .val (.int (1 : Int32)), .val (.ref b62), .val (.ref b67), .val (.ref r98), .unset] [(.int (3 : Int32)), (.ref r98)])) rfl (by rw [hml]; rfl) (argsL := [(.ref r98), (.int (3 : Int32))]) (rest := []) (lenOf own_pd19 rfl) rfl (by show 2 * 0 + _ ≤ _; exact Nat.le_of_eq rfl) (hb hby at_214) (fun _ _ => ⟨rfl, e104, (by decide : 35 + 0 ≤ _), (by decide : 380 + 0 ≤ _)⟩)
      dsimp only [Pt.U, Pt.locs, Pt.cells, Pt.slots] at X105 lu105 yu105 zu105 st105 hQ105
      subst lu105 yu105 zu105
      obtain ⟨rfl, N105q, e105⟩ := hQ105
      have N105 := Fr.app N104 N105q
      refine own_go (T105.setTop (mkF m 217 #[.val (.int p0), .val (.int p1), .val (.int p2), .val (.int p3), .val (.int p4), .val (.int p5), .val (.ref b1), .val (.ref b17), .val (.int (1 : Int32)), .val (.ref b62), .val (.ref b67), .val (.ref r98), .unset] [])) (fun t_ k_ => st105 _ k_) ?_
      refine own_go (T105.setTop (mkF m 219 #[.val (.int p0), .val (.int p1), .val (.int p2), .val (.int p3), .val (.int p4), .val (.int p5), .val (.ref b1), .val (.ref b17), .val (.int (1 : Int32)), .val (.ref b62), .val (.ref b67), .val (.ref r98), .unset] [(.ref b67)])) (fun t_ k_ => XS.aload X105.here hx rfl (hb hby at_217) rfl rfl k_) ?_
      have Nz106 : b67 ≠ r98 := (Nat.ne_of_lt (Nat.lt_of_lt_of_le Fz99.lt u2_98))
      have Fz107 := ((Fz94.keep K98q nin0).keep K101q (ninS Nz106 nin0))
      have Fz108 := ((Fz95.keep K98q).keep K101q)
      have Nz109 : r85 ≠ r98 := (Nat.ne_of_lt (Nat.lt_of_lt_of_le Fz95.lt u2_98))
      have Fz110 := ((Fz97.keep K98q nin0).keep K101q (ninS Nz109 nin0))
      have Fz112 := ((Fz99.keep K98q).keep K101q)
      obtain ⟨cq111, kq111, q111a, q111b, q111c⟩ := isOf hZ e105 Fz112
      obtain ⟨_, _, ⟨T111, Lu111, ku111, nu111⟩, -, X111, ⟨Lc111, hQ111, lu111, yu111, zu111⟩, st111⟩ := X105.virtualBack hx (y := (⟨"com/example/trailcaster/trailcaster/model/ParticipantObject", "query", "()[B"⟩ : MethodName)) (z := (⟨"com/example/trailcaster/trailcaster/model/ParticipantObject", "query", "()[B"⟩ : MethodName)) hown (mvT hZ (hw _ (List.mem_of_getElem? (i := 219) rfl))) (mvT hZ (hw _ (List.mem_of_getElem? (i := 220) rfl))) (notFace_of_selects (args := #[]) (mvT hZ (hw _ (List.mem_of_getElem? (i := 222) rfl)))) (mvT hZ (hw _ (List.mem_of_getElem? (i := 222) rfl))) (mvT hZ (hw _ (List.mem_of_getElem? (i := 221) rfl))) (by decide) (backOf (W := 0) (rm_qyB l Z a0 hw [] (b67) (r85) (k62) ((1 : Int32)) ([(.int (nar .byte (p2.toInt8.toInt32)))]) T101.heap O101 Fz107 Fz108 Fz110 (by decide)) hZ (hw _ (List.mem_of_getElem? (i := 223) rfl)) (hw _ (List.mem_of_getElem? (i := 77) rfl)) (by decide) (by decide)) q111a q111c (g := (mkF m 219 #[.val (.int p0), .val (.int p1), .val (.int p2), .val (.int p3), .val (.int p4), .val (.int p5), .val (.ref b1), .val (.ref b17), .val (.int (1 : Int32)), .val (.ref b62), .val (.ref b67), .val (.ref r98), .unset] [(.ref b67)])) rfl (by rw [hml]; rfl) (Steps.refl _) (argsL := []) (rest := []) (lenOf own_pd20 rfl) rfl (by show 2 * 0 + _ ≤ _; exact Nat.le_of_eq rfl) (hb hby at_219) (fun _ _ => ⟨rfl, e105, (by decide : 35 + 1 ≤ _), (by decide : 380 + 4 ≤ _)⟩)
      dsimp only [Pt.U, Pt.locs, Pt.cells, Pt.slots] at X111 lu111 yu111 zu111 st111 hQ111
      subst lu111 yu111 zu111
      obtain ⟨r111, rfl, N111q, K111q, u2_111, A111q⟩ := hQ111
      have N111 := Fr.app N105 N111q
      have Sn111 := own_snew R101.1 u2_111
      have O111 := own_extK O101 K111q all0
      have KK111 : Keep h0 T111.heap [] := KK101.trans K111q all0
      have R111 := R101.trans (CHr.keep K111q all0 R101.1)
      refine own_go (T111.setTop (mkF m 222 #[.val (.int p0), .val (.int p1), .val (.int p2), .val (.int p3), .val (.int p4), .val (.int p5), .val (.ref b1), .val (.ref b17), .val (.int (1 : Int32)), .val (.ref b62), .val (.ref b67), .val (.ref r98), .unset] [(.ref r111)])) (fun t_ k_ => st111.trans k_) ?_
      refine own_go (T111.setTop (mkF m 224 #[.val (.int p0), .val (.int p1), .val (.int p2), .val (.int p3), .val (.int p4), .val (.int p5), .val (.ref b1), .val (.ref b17), .val (.int (1 : Int32)), .val (.ref b62), .val (.ref b67), .val (.ref r98), .val (.ref r111)] [])) (fun t_ k_ => XS.astore X111.here hx rfl (hb hby at_222) rfl rfl (l' := #[.val (.int p0), .val (.int p1), .val (.int p2), .val (.int p3), .val (.int p4), .val (.int p5), .val (.ref b1), .val (.ref b17), .val (.int (1 : Int32)), .val (.ref b62), .val (.ref b67), .val (.ref r98), .val (.ref r111)]) rfl k_) ?_
      refine own_go (T111.setTop (mkF m 226 #[.val (.int p0), .val (.int p1), .val (.int p2), .val (.int p3), .val (.int p4), .val (.int p5), .val (.ref b1), .val (.ref b17), .val (.int (1 : Int32)), .val (.ref b62), .val (.ref b67), .val (.ref r98), .val (.ref r111)] [(.ref r111)])) (fun t_ k_ => XS.aload X111.here hx rfl (hb hby at_224) rfl rfl k_) ?_
      refine own_go (T111.setTop (mkF m 229 #[.val (.int p0), .val (.int p1), .val (.int p2), .val (.int p3), .val (.int p4), .val (.int p5), .val (.ref b1), .val (.ref b17), .val (.int (1 : Int32)), .val (.ref b62), .val (.ref b67), .val (.ref r98), .val (.ref r111)] [])) (fun t_ k_ => XS.ifnullNo X111.here hx rfl (hb hby at_226) rfl k_) ?_
      refine own_go (T111.setTop (mkF m 231 #[.val (.int p0), .val (.int p1), .val (.int p2), .val (.int p3), .val (.int p4), .val (.int p5), .val (.ref b1), .val (.ref b17), .val (.int (1 : Int32)), .val (.ref b62), .val (.ref b67), .val (.ref r98), .val (.ref r111)] [(.ref r111)])) (fun t_ k_ => XS.aload X111.here hx rfl (hb hby at_229) rfl rfl k_) ?_
      refine own_go (T111.setTop (mkF m 233 #[.val (.int p0), .val (.int p1), .val (.int p2), .val (.int p3), .val (.int p4), .val (.int p5), .val (.ref b1), .val (.ref b17), .val (.int (1 : Int32)), .val (.ref b62), .val (.ref b67), .val (.ref r98), .val (.ref r111)] [(.int (1 : Int32)), (.ref r111)])) (fun t_ k_ => XS.iload X111.here hx rfl (hb hby at_231) rfl k_) ?_
      refine own_go (T111.setTop (mkF m 234 #[.val (.int p0), .val (.int p1), .val (.int p2), .val (.int p3), .val (.int p4), .val (.int p5), .val (.ref b1), .val (.ref b17), .val (.int (1 : Int32)), .val (.ref b62), .val (.ref b67), .val (.ref r98), .val (.ref r111)] [(.int p2), (.int (1 : Int32)), (.ref r111)])) (fun t_ k_ => XS.iloadN X111.here hx rfl (hb hby at_233) rfl k_) ?_
      refine own_go (T111.setTop (mkF m 235 #[.val (.int p0), .val (.int p1), .val (.int p2), .val (.int p3), .val (.int p4), .val (.int p5), .val (.ref b1), .val (.ref b17), .val (.int (1 : Int32)), .val (.ref b62), .val (.ref b67), .val (.ref r98), .val (.ref r111)] [(.int p3), (.int p2), (.int (1 : Int32)), (.ref r111)])) (fun t_ k_ => XS.iloadN X111.here hx rfl (hb hby at_234) rfl k_) ?_
      refine own_go (T111.setTop (mkF m 237 #[.val (.int p0), .val (.int p1), .val (.int p2), .val (.int p3), .val (.int p4), .val (.int p5), .val (.ref b1), .val (.ref b17), .val (.int (1 : Int32)), .val (.ref b62), .val (.ref b67), .val (.ref r98), .val (.ref r111)] [(.int p4), (.int p3), (.int p2), (.int (1 : Int32)), (.ref r111)])) (fun t_ k_ => XS.iload X111.here hx rfl (hb hby at_235) rfl k_) ?_
      refine own_go (T111.setTop (mkF m 239 #[.val (.int p0), .val (.int p1), .val (.int p2), .val (.int p3), .val (.int p4), .val (.int p5), .val (.ref b1), .val (.ref b17), .val (.int (1 : Int32)), .val (.ref b62), .val (.ref b67), .val (.ref r98), .val (.ref r111)] [(.int p5), (.int p4), (.int p3), (.int p2), (.int (1 : Int32)), (.ref r111)])) (fun t_ k_ => XS.iload X111.here hx rfl (hb hby at_237) rfl k_) ?_
      obtain ⟨_, _, ⟨T113, Lu113, ku113, nu113⟩, -, X113, ⟨Lc113, hQ113, lu113, yu113, zu113⟩, st113⟩ := Jvm.LawKit.callS X111 hx (y := (⟨"com/example/trailcaster/trailcaster/model/ParticipantObjectQueryPinLaw", "same", "([BIIIII)Z"⟩ : MethodName)) hown (mvT hZ (hw _ (List.mem_of_getElem? (i := 224) rfl))) (mvT hZ (hw _ (List.mem_of_getElem? (i := 225) rfl))) (mvT hZ (hw _ (List.mem_of_getElem? (i := 73) rfl))) (mvT hZ (hw _ (List.mem_of_getElem? (i := 226) rfl))) (by decide) (backOf (W := 0) (rm_same1 l Z a0 hw [] (r111) (k62) (p2) (p3) (p4) (p5) T111.heap O111 A111q) hZ (hw _ (List.mem_of_getElem? (i := 226) rfl)) (hw _ (List.mem_of_getElem? (i := 73) rfl)) (by decide) (by decide)) (g := (mkF m 239 #[.val (.int p0), .val (.int p1), .val (.int p2), .val (.int p3), .val (.int p4), .val (.int p5), .val (.ref b1), .val (.ref b17), .val (.int (1 : Int32)), .val (.ref b62), .val (.ref b67), .val (.ref r98), .val (.ref r111)] [(.int p5), (.int p4), (.int p3), (.int p2), (.int (1 : Int32)), (.ref r111)])) rfl (by rw [hml]; rfl) (argsL := [(.ref r111), (.int (1 : Int32)), (.int p2), (.int p3), (.int p4), (.int p5)]) (rest := []) (lenOf own_pd21 rfl) rfl (by show 2 * 0 + _ ≤ _; exact Nat.le_of_eq rfl) (hb hby at_239) (fun _ _ => ⟨rfl, rfl, (by decide : 36 + 0 ≤ _), (by decide : 384 + 0 ≤ _)⟩)
      dsimp only [Pt.U, Pt.locs, Pt.cells, Pt.slots] at X113 lu113 yu113 zu113 st113 hQ113
      subst lu113 yu113 zu113
      obtain ⟨rfl, N113q, e113⟩ := hQ113
      have N113 := Fr.app N111 N113q
      refine own_go (T113.setTop (mkF m 242 #[.val (.int p0), .val (.int p1), .val (.int p2), .val (.int p3), .val (.int p4), .val (.int p5), .val (.ref b1), .val (.ref b17), .val (.int (1 : Int32)), .val (.ref b62), .val (.ref b67), .val (.ref r98), .val (.ref r111)] [(.int (1 : Int32))])) (fun t_ k_ => st113 _ k_) ?_
      refine own_go (T113.setTop (mkF m 245 #[.val (.int p0), .val (.int p1), .val (.int p2), .val (.int p3), .val (.int p4), .val (.int p5), .val (.ref b1), .val (.ref b17), .val (.int (1 : Int32)), .val (.ref b62), .val (.ref b67), .val (.ref r98), .val (.ref r111)] [])) (fun t_ k_ => XS.ifNo X113.here hx rfl (hb hby at_242) rfl ((if0 _ _).trans (feq (by decide : ¬ ((1 : Int32) = (0 : Int32)))).1) k_) ?_
      refine own_go (T113.setTop (mkF m 246 #[.val (.int p0), .val (.int p1), .val (.int p2), .val (.int p3), .val (.int p4), .val (.int p5), .val (.ref b1), .val (.ref b17), .val (.int (1 : Int32)), .val (.ref b62), .val (.ref b67), .val (.ref r98), .val (.ref r111)] [(.int (1 : Int32))])) (fun t_ k_ => XS.iconst X113.here hx rfl (hb hby at_245) k_) ?_
      refine own_go (T113.setTop (mkF m 250 #[.val (.int p0), .val (.int p1), .val (.int p2), .val (.int p3), .val (.int p4), .val (.int p5), .val (.ref b1), .val (.ref b17), .val (.int (1 : Int32)), .val (.ref b62), .val (.ref b67), .val (.ref r98), .val (.ref r111)] [(.int (1 : Int32))])) (fun t_ k_ => XS.goto X113.here hx rfl (pc0 := 246) (pc' := 250) rfl (hb hby at_246) (by decide) (by decide) k_) ?_
      obtain ⟨fs, hr, hrun, hended, hRW⟩ := X113.leaveW hS (by rw [show T113.heap = T111.heap from e113]; exact (Nat.le_trans (Nat.le_trans (Nat.le_trans (Nat.le_trans (Nat.le_refl _) K89q.1) K98q.1) K101q.1) K111q.1)) (v := some (.int (nar .boolean (1 : Int32)))) (fun h => by rw [Bd.returns] at h; cases h)
      refine ⟨_, _, retN X113 hx (t := .boolean) Bd.returns (by simp) (hb hby at_250) hr, hrun, hended, _, _, rfl, ?_, hRW.1, hRW.2.1, hRW.2.2.1, hRW.2.2.2.mono (by decide) (by decide)⟩
      show Q_law Z p0 p1 p2 p3 p4 p5 cs0 a_EM a_DF m_A m_L m_R h0 _ T113.heap _
      exact ⟨rfl, N113, trivial⟩
    ·
      rw [hl2]
      refine own_go (T18.setTop (mkF m 81 #[.val (.int p0), .val (.int p1), .val (.int p2), .val (.int p3), .val (.int p4), .val (.int p5), .val (.ref b1), .val (.ref b17), .val (.int (2 : Int32)), .unset, .unset, .unset, .unset] [])) (fun t_ k_ => XS.istore X18.here hx rfl (hb hby at_79) rfl (l' := #[.val (.int p0), .val (.int p1), .val (.int p2), .val (.int p3), .val (.int p4), .val (.int p5), .val (.ref b1), .val (.ref b17), .val (.int (2 : Int32)), .unset, .unset, .unset, .unset]) rfl k_) ?_
      refine own_go (T18.setTop (mkF m 83 #[.val (.int p0), .val (.int p1), .val (.int p2), .val (.int p3), .val (.int p4), .val (.int p5), .val (.ref b1), .val (.ref b17), .val (.int (2 : Int32)), .unset, .unset, .unset, .unset] [(.int (2 : Int32))])) (fun t_ k_ => XS.iload X18.here hx rfl (hb hby at_81) rfl k_) ?_
      obtain ⟨T114, h114, k114, X114, e114, E114, A114, Xa114, st114⟩ := newPE X18 hx hZ (hw _ (List.mem_of_getElem? (i := 6) rfl)) rfl (g := (mkF m 83 #[.val (.int p0), .val (.int p1), .val (.int p2), .val (.int p3), .val (.int p4), .val (.int p5), .val (.ref b1), .val (.ref b17), .val (.int (2 : Int32)), .unset, .unset, .unset, .unset] [(.int (2 : Int32))])) rfl (hb hby at_83) rfl (by decide) (cap := 2) (by decide) (by decide) (by decide) (by decide) (ad := "[B") (by decide)
      obtain ⟨b114, g114⟩ : ∃ z, z = T18.heap.size := ⟨_, rfl⟩
      rw [← g114] at A114 st114 Xa114
      have ge_b114 : Z.heap.size ≤ b114 := Nat.le_trans O18.1 (Nat.le_of_eq g114.symm)
      have sz_b114 : h0.size ≤ b114 := Nat.le_trans KK18.1 (Nat.le_of_eq g114.symm)
      have R114 := R18.trans (CHr.ext E114 R18.1)
      have Sf114 := Safe.ext (x := b114) E114 R18.1 (Safe.new (Nat.le_of_eq g114.symm))
      have K114 : Keep h0 h114 [] := KK18.ext E114
      have O114 := own_ext O18 E114
      have V114 : Arv Z h114 b114 k114 .byte (2 : Int32) [(.int (0 : Int32)), (.int (0 : Int32))] (.int (0 : Int32)) := (Arv.new A114 (by decide)).pad (pad_rep [] (.int (0 : Int32)) 2)
      refine own_go (T114.setTop (mkF m 85 #[.val (.int p0), .val (.int p1), .val (.int p2), .val (.int p3), .val (.int p4), .val (.int p5), .val (.ref b1), .val (.ref b17), .val (.int (2 : Int32)), .unset, .unset, .unset, .unset] [(.ref b114)])) (fun t_ k_ => st114 _ k_) ?_
      refine own_go (T114.setTop (mkF m 87 #[.val (.int p0), .val (.int p1), .val (.int p2), .val (.int p3), .val (.int p4), .val (.int p5), .val (.ref b1), .val (.ref b17), .val (.int (2 : Int32)), .val (.ref b114), .unset, .unset, .unset] [])) (fun t_ k_ => XS.astore X114.here hx rfl (hb hby at_85) rfl rfl (l' := #[.val (.int p0), .val (.int p1), .val (.int p2), .val (.int p3), .val (.int p4), .val (.int p5), .val (.ref b1), .val (.ref b17), .val (.int (2 : Int32)), .val (.ref b114), .unset, .unset, .unset]) rfl k_) ?_
      refine own_go (T114.setTop (mkF m 89 #[.val (.int p0), .val (.int p1), .val (.int p2), .val (.int p3), .val (.int p4), .val (.int p5), .val (.ref b1), .val (.ref b17), .val (.int (2 : Int32)), .val (.ref b114), .unset, .unset, .unset] [(.ref b114)])) (fun t_ k_ => XS.aload X114.here hx rfl (hb hby at_87) rfl rfl k_) ?_
      refine own_go (T114.setTop (mkF m 90 #[.val (.int p0), .val (.int p1), .val (.int p2), .val (.int p3), .val (.int p4), .val (.int p5), .val (.ref b1), .val (.ref b17), .val (.int (2 : Int32)), .val (.ref b114), .unset, .unset, .unset] [(.int (0 : Int32)), (.ref b114)])) (fun t_ k_ => XS.iconst X114.here hx rfl (hb hby at_89) k_) ?_
      refine own_go (T114.setTop (mkF m 91 #[.val (.int p0), .val (.int p1), .val (.int p2), .val (.int p3), .val (.int p4), .val (.int p5), .val (.ref b1), .val (.ref b17), .val (.int (2 : Int32)), .val (.ref b114), .unset, .unset, .unset] [(.int p2), (.int (0 : Int32)), (.ref b114)])) (fun t_ k_ => XS.iloadN X114.here hx rfl (hb hby at_90) rfl k_) ?_
      obtain ⟨_, _, ⟨T115, Lu115, ku115, nu115⟩, -, X115, ⟨Lc115, hQ115, lu115, yu115, zu115⟩, st115⟩ := Jvm.LawKit.callS X114 hx (y := (⟨"com/example/trailcaster/trailcaster/model/ParticipantObjectQueryPinLaw", "set", "([BII)V"⟩ : MethodName)) hown (mvT hZ (hw _ (List.mem_of_getElem? (i := 71) rfl))) (mvT hZ (hw _ (List.mem_of_getElem? (i := 72) rfl))) (mvT hZ (hw _ (List.mem_of_getElem? (i := 73) rfl))) (mvT hZ (hw _ (List.mem_of_getElem? (i := 74) rfl))) (by decide) (backOf (W := 0) (rm_seti l Z a0 hw [] (b114) (k114) ((2 : Int32)) ([(.int (0 : Int32)), (.int (0 : Int32))]) ((0 : Int32)) (0) (p2) h114 O114 V114 (by decide) (by decide) rfl (Nat.le_of_ble_eq_true rfl) ge_b114) hZ (hw _ (List.mem_of_getElem? (i := 74) rfl)) (hw _ (List.mem_of_getElem? (i := 73) rfl)) (by decide) (by decide)) (g := (mkF m 91 #[.val (.int p0), .val (.int p1), .val (.int p2), .val (.int p3), .val (.int p4), .val (.int p5), .val (.ref b1), .val (.ref b17), .val (.int (2 : Int32)), .val (.ref b114), .unset, .unset, .unset] [(.int p2), (.int (0 : Int32)), (.ref b114)])) rfl (by rw [hml]; rfl) (argsL := [(.ref b114), (.int (0 : Int32)), (.int p2)]) (rest := []) (lenOf own_pd17 rfl) rfl (by show 2 * 0 + _ ≤ _; exact Nat.le_of_eq rfl) (hb hby at_91) (fun _ _ => ⟨rfl, e114, (by decide : 15 + 0 ≤ _), (by decide : 164 + 0 ≤ _)⟩)
      dsimp only [Pt.U, Pt.locs, Pt.cells, Pt.slots] at X115 lu115 yu115 zu115 st115 hQ115
      subst lu115 yu115 zu115
      obtain ⟨rfl, N115q, K115q, A115q⟩ := hQ115
      have N115 := Fr.app N18 N115q
      have A115r : Arv Z T115.heap b114 k114 .byte (2 : Int32) [(.int (nar .byte (p2.toInt8.toInt32))), (.int (0 : Int32))] (.int 0) := A115q
      have O115 := own_extK O114 K115q (allS ge_b114 all0)
      have KK115 : Keep h0 T115.heap [] := K114.trans K115q (allS (Or.inr sz_b114) all0)
      have R115 := R114.trans (CHr.keep K115q (allS Sf114 all0) R114.1)
      refine own_go (T115.setTop (mkF m 94 #[.val (.int p0), .val (.int p1), .val (.int p2), .val (.int p3), .val (.int p4), .val (.int p5), .val (.ref b1), .val (.ref b17), .val (.int (2 : Int32)), .val (.ref b114), .unset, .unset, .unset] [])) (fun t_ k_ => st115 _ k_) ?_
      refine own_go (T115.setTop (mkF m 96 #[.val (.int p0), .val (.int p1), .val (.int p2), .val (.int p3), .val (.int p4), .val (.int p5), .val (.ref b1), .val (.ref b17), .val (.int (2 : Int32)), .val (.ref b114), .unset, .unset, .unset] [(.ref b114)])) (fun t_ k_ => XS.aload X115.here hx rfl (hb hby at_94) rfl rfl k_) ?_
      refine own_go (T115.setTop (mkF m 97 #[.val (.int p0), .val (.int p1), .val (.int p2), .val (.int p3), .val (.int p4), .val (.int p5), .val (.ref b1), .val (.ref b17), .val (.int (2 : Int32)), .val (.ref b114), .unset, .unset, .unset] [(.int (1 : Int32)), (.ref b114)])) (fun t_ k_ => XS.iconst X115.here hx rfl (hb hby at_96) k_) ?_
      refine own_go (T115.setTop (mkF m 98 #[.val (.int p0), .val (.int p1), .val (.int p2), .val (.int p3), .val (.int p4), .val (.int p5), .val (.ref b1), .val (.ref b17), .val (.int (2 : Int32)), .val (.ref b114), .unset, .unset, .unset] [(.int p3), (.int (1 : Int32)), (.ref b114)])) (fun t_ k_ => XS.iloadN X115.here hx rfl (hb hby at_97) rfl k_) ?_
      obtain ⟨_, _, ⟨T116, Lu116, ku116, nu116⟩, -, X116, ⟨Lc116, hQ116, lu116, yu116, zu116⟩, st116⟩ := Jvm.LawKit.callS X115 hx (y := (⟨"com/example/trailcaster/trailcaster/model/ParticipantObjectQueryPinLaw", "set", "([BII)V"⟩ : MethodName)) hown (mvT hZ (hw _ (List.mem_of_getElem? (i := 71) rfl))) (mvT hZ (hw _ (List.mem_of_getElem? (i := 72) rfl))) (mvT hZ (hw _ (List.mem_of_getElem? (i := 73) rfl))) (mvT hZ (hw _ (List.mem_of_getElem? (i := 74) rfl))) (by decide) (backOf (W := 0) (rm_seti l Z a0 hw [] (b114) (k114) ((2 : Int32)) ([(.int (nar .byte (p2.toInt8.toInt32))), (.int (0 : Int32))]) ((1 : Int32)) (1) (p3) T115.heap O115 A115r (by decide) (by decide) rfl (Nat.le_of_ble_eq_true rfl) ge_b114) hZ (hw _ (List.mem_of_getElem? (i := 74) rfl)) (hw _ (List.mem_of_getElem? (i := 73) rfl)) (by decide) (by decide)) (g := (mkF m 98 #[.val (.int p0), .val (.int p1), .val (.int p2), .val (.int p3), .val (.int p4), .val (.int p5), .val (.ref b1), .val (.ref b17), .val (.int (2 : Int32)), .val (.ref b114), .unset, .unset, .unset] [(.int p3), (.int (1 : Int32)), (.ref b114)])) rfl (by rw [hml]; rfl) (argsL := [(.ref b114), (.int (1 : Int32)), (.int p3)]) (rest := []) (lenOf own_pd17 rfl) rfl (by show 2 * 0 + _ ≤ _; exact Nat.le_of_eq rfl) (hb hby at_98) (fun _ _ => ⟨rfl, rfl, (by decide : 15 + 0 ≤ _), (by decide : 164 + 0 ≤ _)⟩)
      dsimp only [Pt.U, Pt.locs, Pt.cells, Pt.slots] at X116 lu116 yu116 zu116 st116 hQ116
      subst lu116 yu116 zu116
      obtain ⟨rfl, N116q, K116q, A116q⟩ := hQ116
      have N116 := Fr.app N115 N116q
      have A116r : Arv Z T116.heap b114 k114 .byte (2 : Int32) [(.int (nar .byte (p2.toInt8.toInt32))), (.int (nar .byte (p3.toInt8.toInt32)))] (.int 0) := A116q
      have O116 := own_extK O115 K116q (allS ge_b114 all0)
      have KK116 : Keep h0 T116.heap [] := KK115.trans K116q (allS (Or.inr sz_b114) all0)
      have Fz117 := (Safe.keep K115q (allS Sf114 all0) R114.1 Sf114)
      have R116 := R115.trans (CHr.keep K116q (allS Fz117 all0) R115.1)
      refine own_go (T116.setTop (mkF m 101 #[.val (.int p0), .val (.int p1), .val (.int p2), .val (.int p3), .val (.int p4), .val (.int p5), .val (.ref b1), .val (.ref b17), .val (.int (2 : Int32)), .val (.ref b114), .unset, .unset, .unset] [])) (fun t_ k_ => st116 _ k_) ?_
      refine own_go (T116.setTop (mkF m 103 #[.val (.int p0), .val (.int p1), .val (.int p2), .val (.int p3), .val (.int p4), .val (.int p5), .val (.ref b1), .val (.ref b17), .val (.int (2 : Int32)), .val (.ref b114), .unset, .unset, .unset] [(.ref b114)])) (fun t_ k_ => XS.aload X116.here hx rfl (hb hby at_101) rfl rfl k_) ?_
      refine own_go (T116.setTop (mkF m 104 #[.val (.int p0), .val (.int p1), .val (.int p2), .val (.int p3), .val (.int p4), .val (.int p5), .val (.ref b1), .val (.ref b17), .val (.int (2 : Int32)), .val (.ref b114), .unset, .unset, .unset] [(.int (2 : Int32)), (.ref b114)])) (fun t_ k_ => XS.iconst X116.here hx rfl (hb hby at_103) k_) ?_
      refine own_go (T116.setTop (mkF m 106 #[.val (.int p0), .val (.int p1), .val (.int p2), .val (.int p3), .val (.int p4), .val (.int p5), .val (.ref b1), .val (.ref b17), .val (.int (2 : Int32)), .val (.ref b114), .unset, .unset, .unset] [(.int p4), (.int (2 : Int32)), (.ref b114)])) (fun t_ k_ => XS.iload X116.here hx rfl (hb hby at_104) rfl k_) ?_
      obtain ⟨_, _, ⟨T118, Lu118, ku118, nu118⟩, -, X118, ⟨Lc118, hQ118, lu118, yu118, zu118⟩, st118⟩ := Jvm.LawKit.callS X116 hx (y := (⟨"com/example/trailcaster/trailcaster/model/ParticipantObjectQueryPinLaw", "set", "([BII)V"⟩ : MethodName)) hown (mvT hZ (hw _ (List.mem_of_getElem? (i := 71) rfl))) (mvT hZ (hw _ (List.mem_of_getElem? (i := 72) rfl))) (mvT hZ (hw _ (List.mem_of_getElem? (i := 73) rfl))) (mvT hZ (hw _ (List.mem_of_getElem? (i := 74) rfl))) (by decide) (backOf (W := 0) (rm_seto l Z a0 hw [] (b114) (k114) ((2 : Int32)) ([(.int (nar .byte (p2.toInt8.toInt32))), (.int (nar .byte (p3.toInt8.toInt32)))]) ((2 : Int32)) (p4) T116.heap O116 A116r (by decide)) hZ (hw _ (List.mem_of_getElem? (i := 74) rfl)) (hw _ (List.mem_of_getElem? (i := 73) rfl)) (by decide) (by decide)) (g := (mkF m 106 #[.val (.int p0), .val (.int p1), .val (.int p2), .val (.int p3), .val (.int p4), .val (.int p5), .val (.ref b1), .val (.ref b17), .val (.int (2 : Int32)), .val (.ref b114), .unset, .unset, .unset] [(.int p4), (.int (2 : Int32)), (.ref b114)])) rfl (by rw [hml]; rfl) (argsL := [(.ref b114), (.int (2 : Int32)), (.int p4)]) (rest := []) (lenOf own_pd17 rfl) rfl (by show 2 * 0 + _ ≤ _; exact Nat.le_of_eq rfl) (hb hby at_106) (fun _ _ => ⟨rfl, rfl, (by decide : 15 + 0 ≤ _), (by decide : 164 + 0 ≤ _)⟩)
      dsimp only [Pt.U, Pt.locs, Pt.cells, Pt.slots] at X118 lu118 yu118 zu118 st118 hQ118
      subst lu118 yu118 zu118
      obtain ⟨rfl, N118q, e118⟩ := hQ118
      have N118 := Fr.app N116 N118q
      refine own_go (T118.setTop (mkF m 109 #[.val (.int p0), .val (.int p1), .val (.int p2), .val (.int p3), .val (.int p4), .val (.int p5), .val (.ref b1), .val (.ref b17), .val (.int (2 : Int32)), .val (.ref b114), .unset, .unset, .unset] [])) (fun t_ k_ => st118 _ k_) ?_
      refine own_go (T118.setTop (mkF m 111 #[.val (.int p0), .val (.int p1), .val (.int p2), .val (.int p3), .val (.int p4), .val (.int p5), .val (.ref b1), .val (.ref b17), .val (.int (2 : Int32)), .val (.ref b114), .unset, .unset, .unset] [(.ref b114)])) (fun t_ k_ => XS.aload X118.here hx rfl (hb hby at_109) rfl rfl k_) ?_
      refine own_go (T118.setTop (mkF m 112 #[.val (.int p0), .val (.int p1), .val (.int p2), .val (.int p3), .val (.int p4), .val (.int p5), .val (.ref b1), .val (.ref b17), .val (.int (2 : Int32)), .val (.ref b114), .unset, .unset, .unset] [(.int (3 : Int32)), (.ref b114)])) (fun t_ k_ => XS.iconst X118.here hx rfl (hb hby at_111) k_) ?_
      refine own_go (T118.setTop (mkF m 114 #[.val (.int p0), .val (.int p1), .val (.int p2), .val (.int p3), .val (.int p4), .val (.int p5), .val (.ref b1), .val (.ref b17), .val (.int (2 : Int32)), .val (.ref b114), .unset, .unset, .unset] [(.int p5), (.int (3 : Int32)), (.ref b114)])) (fun t_ k_ => XS.iload X118.here hx rfl (hb hby at_112) rfl k_) ?_
      obtain ⟨_, _, ⟨T119, Lu119, ku119, nu119⟩, -, X119, ⟨Lc119, hQ119, lu119, yu119, zu119⟩, st119⟩ := Jvm.LawKit.callS X118 hx (y := (⟨"com/example/trailcaster/trailcaster/model/ParticipantObjectQueryPinLaw", "set", "([BII)V"⟩ : MethodName)) hown (mvT hZ (hw _ (List.mem_of_getElem? (i := 71) rfl))) (mvT hZ (hw _ (List.mem_of_getElem? (i := 72) rfl))) (mvT hZ (hw _ (List.mem_of_getElem? (i := 73) rfl))) (mvT hZ (hw _ (List.mem_of_getElem? (i := 74) rfl))) (by decide) (backOf (W := 0) (rm_seto l Z a0 hw [] (b114) (k114) ((2 : Int32)) ([(.int (nar .byte (p2.toInt8.toInt32))), (.int (nar .byte (p3.toInt8.toInt32)))]) ((3 : Int32)) (p5) T116.heap O116 A116r (by decide)) hZ (hw _ (List.mem_of_getElem? (i := 74) rfl)) (hw _ (List.mem_of_getElem? (i := 73) rfl)) (by decide) (by decide)) (g := (mkF m 114 #[.val (.int p0), .val (.int p1), .val (.int p2), .val (.int p3), .val (.int p4), .val (.int p5), .val (.ref b1), .val (.ref b17), .val (.int (2 : Int32)), .val (.ref b114), .unset, .unset, .unset] [(.int p5), (.int (3 : Int32)), (.ref b114)])) rfl (by rw [hml]; rfl) (argsL := [(.ref b114), (.int (3 : Int32)), (.int p5)]) (rest := []) (lenOf own_pd17 rfl) rfl (by show 2 * 0 + _ ≤ _; exact Nat.le_of_eq rfl) (hb hby at_114) (fun _ _ => ⟨rfl, e118, (by decide : 15 + 0 ≤ _), (by decide : 164 + 0 ≤ _)⟩)
      dsimp only [Pt.U, Pt.locs, Pt.cells, Pt.slots] at X119 lu119 yu119 zu119 st119 hQ119
      subst lu119 yu119 zu119
      obtain ⟨rfl, N119q, e119⟩ := hQ119
      have N119 := Fr.app N118 N119q
      refine own_go (T119.setTop (mkF m 117 #[.val (.int p0), .val (.int p1), .val (.int p2), .val (.int p3), .val (.int p4), .val (.int p5), .val (.ref b1), .val (.ref b17), .val (.int (2 : Int32)), .val (.ref b114), .unset, .unset, .unset] [])) (fun t_ k_ => st119 _ k_) ?_
      obtain ⟨T120, h120, X120, e120, E120, A120, D120, U120, st120⟩ := newO X119 hx hZ hown (hw _ (List.mem_of_getElem? (i := 75) rfl)) (hw _ (List.mem_of_getElem? (i := 76) rfl)) (hw _ (List.mem_of_getElem? (i := 77) rfl)) e119 (g := (mkF m 117 #[.val (.int p0), .val (.int p1), .val (.int p2), .val (.int p3), .val (.int p4), .val (.int p5), .val (.ref b1), .val (.ref b17), .val (.int (2 : Int32)), .val (.ref b114), .unset, .unset, .unset] [])) rfl (hb hby at_117) (by decide) (by decide)
      obtain ⟨b120, g120⟩ : ∃ z, z = T116.heap.size := ⟨_, rfl⟩
      rw [← g120] at A120 D120 U120 st120
      have ge_b120 : Z.heap.size ≤ b120 := Nat.le_trans O116.1 (Nat.le_of_eq g120.symm)
      have sz_b120 : h0.size ≤ b120 := Nat.le_trans KK116.1 (Nat.le_of_eq g120.symm)
      have R120 := R116.trans (CHr.ext E120 R116.1)
      have Sf120 := Safe.ext (x := b120) E120 R116.1 (Safe.new (Nat.le_of_eq g120.symm))
      have K120 : Keep h0 h120 [] := KK116.ext E120
      have O120 := own_ext O116 E120
      have Fid_120 : Fld Z h120 b120 "com/example/trailcaster/trailcaster/model/ParticipantObject" "id" "Ljava/lang/String;" .null := D120 (Or.inr (hw _ (List.mem_of_getElem? (i := 201) rfl))) (ty := (.object "java/lang/String")) (by decide)
      have FtypeCode_120 : Fld Z h120 b120 "com/example/trailcaster/trailcaster/model/ParticipantObject" "typeCode" "Ljava/lang/String;" .null := D120 (Or.inr (hw _ (List.mem_of_getElem? (i := 203) rfl))) (ty := (.object "java/lang/String")) (by decide)
      have FtypeCodeRole_120 : Fld Z h120 b120 "com/example/trailcaster/trailcaster/model/ParticipantObject" "typeCodeRole" "Ljava/lang/String;" .null := D120 (Or.inr (hw _ (List.mem_of_getElem? (i := 205) rfl))) (ty := (.object "java/lang/String")) (by decide)
      have FidTypeCode_120 : Fld Z h120 b120 "com/example/trailcaster/trailcaster/model/ParticipantObject" "idTypeCode" "Lcom/example/trailcaster/trailcaster/model/CodedValue;" .null := D120 (Or.inr (hw _ (List.mem_of_getElem? (i := 207) rfl))) (ty := (.object "com/example/trailcaster/trailcaster/model/CodedValue")) (by decide)
      have Fname_120 : Fld Z h120 b120 "com/example/trailcaster/trailcaster/model/ParticipantObject" "name" "Ljava/lang/String;" .null := D120 (Or.inr (hw _ (List.mem_of_getElem? (i := 209) rfl))) (ty := (.object "java/lang/String")) (by decide)
      have Fquery_120 : Fld Z h120 b120 "com/example/trailcaster/trailcaster/model/ParticipantObject" "query" "[B" .null := D120 (Or.inr (hw _ (List.mem_of_getElem? (i := 211) rfl))) (ty := (.array .byte)) (by decide)
      have Fdetails_120 : Fld Z h120 b120 "com/example/trailcaster/trailcaster/model/ParticipantObject" "details" "Ljava/util/List;" .null := D120 (Or.inr (hw _ (List.mem_of_getElem? (i := 213) rfl))) (ty := (.object "java/util/List")) (by decide)
      have Fdescription_120 : Fld Z h120 b120 "com/example/trailcaster/trailcaster/model/ParticipantObject" "description" "Lcom/example/trailcaster/trailcaster/model/DicomObjectDescription;" .null := D120 (Or.inr (hw _ (List.mem_of_getElem? (i := 215) rfl))) (ty := (.object "com/example/trailcaster/trailcaster/model/DicomObjectDescription")) (by decide)
      refine own_go (T120.setTop (mkF m 120 #[.val (.int p0), .val (.int p1), .val (.int p2), .val (.int p3), .val (.int p4), .val (.int p5), .val (.ref b1), .val (.ref b17), .val (.int (2 : Int32)), .val (.ref b114), .unset, .unset, .unset] [(.ref b120)])) (fun t_ k_ => st120 _ k_) ?_
      refine own_go (T120.setTop (mkF m 121 #[.val (.int p0), .val (.int p1), .val (.int p2), .val (.int p3), .val (.int p4), .val (.int p5), .val (.ref b1), .val (.ref b17), .val (.int (2 : Int32)), .val (.ref b114), .unset, .unset, .unset] [(.ref b120), (.ref b120)])) (fun t_ k_ => XS.dup X120.here hx rfl (hb hby at_120) rfl rfl k_) ?_
      obtain ⟨a121, T121, h121, k121, t121, kb121, X121, e121, E121, hS, hk, hZ, hown, A121, C121, V121, B121, lt121, ltb121, CC121, Li121, ne121, st121⟩ := ldcCH (EL := consts_1) X120 hx hZ hown (hw _ (List.mem_of_getElem? (i := 78) rfl)) (fun d hd => hw d (own_sA d hd)) e120 hS (Nat.le_trans (Nat.le_trans (Nat.le_trans (Nat.le_trans (Nat.le_trans (Nat.le_trans (Nat.le_refl _) E17.1) K18q.1) E114.1) K115q.1) K116q.1) E120.1) hEW (List.mem_of_getElem? (i := 11) rfl) R120.1 (vs := (([105] : List Int32).map (fun c => c.toInt8.toInt32)).map Value.int) (z := 1) (by exact ⟨by decide, by rfl⟩) (by decide) (by rfl) (g := (mkF m 121 #[.val (.int p0), .val (.int p1), .val (.int p2), .val (.int p3), .val (.int p4), .val (.int p5), .val (.ref b1), .val (.ref b17), .val (.int (2 : Int32)), .val (.ref b114), .unset, .unset, .unset] [(.ref b120), (.ref b120)])) rfl (hb hby at_121) (n := 4) (by decide) (by decide) (by decide) (by decide)
      have K121 : Keep h0 h121 [] := K120.ext E121
      have O121 := own_ext O120 E121
      have R121 := R120.trans CC121
      refine own_go (T121.setTop (mkF m 123 #[.val (.int p0), .val (.int p1), .val (.int p2), .val (.int p3), .val (.int p4), .val (.int p5), .val (.ref b1), .val (.ref b17), .val (.int (2 : Int32)), .val (.ref b114), .unset, .unset, .unset] [(.ref a121), (.ref b120), (.ref b120)])) (fun t_ k_ => st121 _ k_) ?_
      obtain ⟨a122, T122, h122, k122, t122, kb122, X122, e122, E122, hS, hk, hZ, hown, A122, C122, V122, B122, lt122, ltb122, CC122, Li122, ne122, st122⟩ := ldcCH (EL := consts_1) X121 hx hZ hown (hw _ (List.mem_of_getElem? (i := 79) rfl)) (fun d hd => hw d (own_sA d hd)) e121 hS hk hEW (List.mem_of_getElem? (i := 12) rfl) R121.1 (vs := (([116] : List Int32).map (fun c => c.toInt8.toInt32)).map Value.int) (z := 1) (by exact ⟨by decide, by rfl⟩) (by decide) (by rfl) (g := (mkF m 123 #[.val (.int p0), .val (.int p1), .val (.int p2), .val (.int p3), .val (.int p4), .val (.int p5), .val (.ref b1), .val (.ref b17), .val (.int (2 : Int32)), .val (.ref b114), .unset, .unset, .unset] [(.ref a121), (.ref b120), (.ref b120)])) rfl (hb hby at_123) (n := 4) (by decide) (by decide) (by decide) (by decide)
      have K122 : Keep h0 h122 [] := K121.ext E122
      have O122 := own_ext O121 E122
      have R122 := R121.trans CC122
      refine own_go (T122.setTop (mkF m 125 #[.val (.int p0), .val (.int p1), .val (.int p2), .val (.int p3), .val (.int p4), .val (.int p5), .val (.ref b1), .val (.ref b17), .val (.int (2 : Int32)), .val (.ref b114), .unset, .unset, .unset] [(.ref a122), (.ref a121), (.ref b120), (.ref b120)])) (fun t_ k_ => st122 _ k_) ?_
      refine own_go (T122.setTop (mkF m 126 #[.val (.int p0), .val (.int p1), .val (.int p2), .val (.int p3), .val (.int p4), .val (.int p5), .val (.ref b1), .val (.ref b17), .val (.int (2 : Int32)), .val (.ref b114), .unset, .unset, .unset] [.null, (.ref a122), (.ref a121), (.ref b120), (.ref b120)])) (fun t_ k_ => XS.aconstNull X122.here hx rfl (hb hby at_125) k_) ?_
      refine own_go (T122.setTop (mkF m 128 #[.val (.int p0), .val (.int p1), .val (.int p2), .val (.int p3), .val (.int p4), .val (.int p5), .val (.ref b1), .val (.ref b17), .val (.int (2 : Int32)), .val (.ref b114), .unset, .unset, .unset] [(.ref b1), .null, (.ref a122), (.ref a121), (.ref b120), (.ref b120)])) (fun t_ k_ => XS.aload X122.here hx rfl (hb hby at_126) rfl rfl k_) ?_
      refine own_go (T122.setTop (mkF m 129 #[.val (.int p0), .val (.int p1), .val (.int p2), .val (.int p3), .val (.int p4), .val (.int p5), .val (.ref b1), .val (.ref b17), .val (.int (2 : Int32)), .val (.ref b114), .unset, .unset, .unset] [.null, (.ref b1), .null, (.ref a122), (.ref a121), (.ref b120), (.ref b120)])) (fun t_ k_ => XS.aconstNull X122.here hx rfl (hb hby at_128) k_) ?_
      refine own_go (T122.setTop (mkF m 131 #[.val (.int p0), .val (.int p1), .val (.int p2), .val (.int p3), .val (.int p4), .val (.int p5), .val (.ref b1), .val (.ref b17), .val (.int (2 : Int32)), .val (.ref b114), .unset, .unset, .unset] [(.ref b114), .null, (.ref b1), .null, (.ref a122), (.ref a121), (.ref b120), (.ref b120)])) (fun t_ k_ => XS.aload X122.here hx rfl (hb hby at_129) rfl rfl k_) ?_
      refine own_go (T122.setTop (mkF m 133 #[.val (.int p0), .val (.int p1), .val (.int p2), .val (.int p3), .val (.int p4), .val (.int p5), .val (.ref b1), .val (.ref b17), .val (.int (2 : Int32)), .val (.ref b114), .unset, .unset, .unset] [(.ref b17), (.ref b114), .null, (.ref b1), .null, (.ref a122), (.ref a121), (.ref b120), (.ref b120)])) (fun t_ k_ => XS.aload X122.here hx rfl (hb hby at_131) rfl rfl k_) ?_
      refine own_go (T122.setTop (mkF m 134 #[.val (.int p0), .val (.int p1), .val (.int p2), .val (.int p3), .val (.int p4), .val (.int p5), .val (.ref b1), .val (.ref b17), .val (.int (2 : Int32)), .val (.ref b114), .unset, .unset, .unset] [.null, (.ref b17), (.ref b114), .null, (.ref b1), .null, (.ref a122), (.ref a121), (.ref b120), (.ref b120)])) (fun t_ k_ => XS.aconstNull X122.here hx rfl (hb hby at_133) k_) ?_
      have Fz123 := ((A120.ext E121).ext E122)
      have Fz124 := ((Fid_120.ext E121).ext E122)
      have Fz125 := ((FtypeCode_120.ext E121).ext E122)
      have Fz126 := ((FtypeCodeRole_120.ext E121).ext E122)
      have Fz127 := ((FidTypeCode_120.ext E121).ext E122)
      have Fz128 := ((Fname_120.ext E121).ext E122)
      have Fz129 := ((Fquery_120.ext E121).ext E122)
      have Fz130 := ((Fdetails_120.ext E121).ext E122)
      have Fz131 := ((Fdescription_120.ext E121).ext E122)
      have Fz132 := ((((((X18q.ext E114).keep K115q).keep K116q).ext E120).ext E121).ext E122)
      have Nz133 : b17 ≠ b114 := (Nat.ne_of_lt (Nat.lt_of_lt_of_le X18q.lt (Nat.le_of_eq g114.symm)))
      have Fz134 := ((((((M18q.ext E114).keep K115q (ninS Nz133 nin0)).keep K116q (ninS Nz133 nin0)).ext E120).ext E121).ext E122)
      have Fz135 := ((((((S18q.ext E114).keep K115q (ninS Nz133 nin0)).keep K116q (ninS Nz133 nin0)).ext E120).ext E121).ext E122)
      have Fz136 := (((((Xa114.keep K115q).keep K116q).ext E120).ext E121).ext E122)
      have Fz137 := (((A116r.ext E120).ext E121).ext E122)
      obtain ⟨_, _, ⟨T138, Lu138, ku138, nu138⟩, -, X138, hS138, hg138, ⟨Lc138, hQ138, lu138, yu138, zu138, C138⟩, st138⟩ := X122.specialBackS hx (y := (⟨"com/example/trailcaster/trailcaster/model/ParticipantObject", "<init>", "(Ljava/lang/String;Ljava/lang/String;Ljava/lang/String;Lcom/example/trailcaster/trailcaster/model/CodedValue;Ljava/lang/String;[BLjava/util/List;Lcom/example/trailcaster/trailcaster/model/DicomObjectDescription;)V"⟩ : MethodName)) rfl hown (mvT hZ (hw _ (List.mem_of_getElem? (i := 80) rfl))) (mvT hZ (hw _ (List.mem_of_getElem? (i := 81) rfl))) (mvT hZ (hw _ (List.mem_of_getElem? (i := 82) rfl))) (by decide) (backOfSH (W := 1) (rm_poB l Z a0 hw [] (b120) (a121) (b1) (b17) (a122) (t122) (kb122) (_) (b114) (k114) ((2 : Int32)) ([(.int (nar .byte (p2.toInt8.toInt32))), (.int (nar .byte (p3.toInt8.toInt32)))]) (cs0) (a_EM) (a_DF) (m_A) (m_L) (m_R) h122 O122 w Fz123 Fz124 Fz125 Fz126 Fz127 Fz128 Fz129 Fz130 Fz131 ge_b120 Fz132 Fz134 Fz135 A122 V122 B122 Fz136 Fz137 (by decide)) hZ (hw _ (List.mem_of_getElem? (i := 82) rfl)) (hw _ (List.mem_of_getElem? (i := 77) rfl)) (by decide) (by decide) hEW R122.1) (g := (mkF m 134 #[.val (.int p0), .val (.int p1), .val (.int p2), .val (.int p3), .val (.int p4), .val (.int p5), .val (.ref b1), .val (.ref b17), .val (.int (2 : Int32)), .val (.ref b114), .unset, .unset, .unset] [.null, (.ref b17), (.ref b114), .null, (.ref b1), .null, (.ref a122), (.ref a121), (.ref b120), (.ref b120)])) rfl (by rw [hml]; rfl) (Steps.refl _) (a := b120) (argsL := [(.ref a121), (.ref a122), .null, (.ref b1), .null, (.ref b114), (.ref b17), .null]) (rest := [(.ref b120)]) (lenOf own_pd18 rfl) rfl (by show 2 * 0 + _ ≤ _; exact Nat.le_of_eq rfl) (hb hby at_134) (fun _ _ => ⟨rfl, e122, (by decide : 20 + 14 ≤ _), (by decide : 188 + 189 ≤ _)⟩)
      dsimp only [Pt.U, Pt.locs, Pt.cells, Pt.slots] at X138 lu138 yu138 zu138 st138 hQ138 hS138 hg138 C138
      subst lu138 yu138 zu138
      obtain ⟨X138, hS, hZ, hown⟩ := rebS hS (by rw [show T122.heap = h122 from e122]; exact hk) X138 hS138 hg138 hZ hown
      have R138 := R122.trans C138
      obtain ⟨r138, rfl, N138q, K138q, u2_138, X138q, F138q, Y138q, A138q⟩ := hQ138
      have N138 := Fr.app N119 N138q
      have O138 := own_extK O122 K138q (allS ge_b120 all0)
      have KK138 : Keep h0 T138.heap [] := K122.trans K138q (allS (Or.inr sz_b120) all0)
      have Fz139 := (CC122.safe (A120.ext E121).lt (CC121.safe A120.lt Sf120))
      refine own_go (T138.setTop (mkF m 137 #[.val (.int p0), .val (.int p1), .val (.int p2), .val (.int p3), .val (.int p4), .val (.int p5), .val (.ref b1), .val (.ref b17), .val (.int (2 : Int32)), .val (.ref b114), .unset, .unset, .unset] [(.ref b120)])) (fun t_ k_ => st138.trans k_) ?_
      refine own_go (T138.setTop (mkF m 139 #[.val (.int p0), .val (.int p1), .val (.int p2), .val (.int p3), .val (.int p4), .val (.int p5), .val (.ref b1), .val (.ref b17), .val (.int (2 : Int32)), .val (.ref b114), .val (.ref b120), .unset, .unset] [])) (fun t_ k_ => XS.astore X138.here hx rfl (hb hby at_137) rfl rfl (l' := #[.val (.int p0), .val (.int p1), .val (.int p2), .val (.int p3), .val (.int p4), .val (.int p5), .val (.ref b1), .val (.ref b17), .val (.int (2 : Int32)), .val (.ref b114), .val (.ref b120), .unset, .unset]) rfl k_) ?_
      refine own_go (T138.setTop (mkF m 141 #[.val (.int p0), .val (.int p1), .val (.int p2), .val (.int p3), .val (.int p4), .val (.int p5), .val (.ref b1), .val (.ref b17), .val (.int (2 : Int32)), .val (.ref b114), .val (.ref b120), .unset, .unset] [(.ref b114)])) (fun t_ k_ => XS.aload X138.here hx rfl (hb hby at_139) rfl rfl k_) ?_
      refine own_go (T138.setTop (mkF m 142 #[.val (.int p0), .val (.int p1), .val (.int p2), .val (.int p3), .val (.int p4), .val (.int p5), .val (.ref b1), .val (.ref b17), .val (.int (2 : Int32)), .val (.ref b114), .val (.ref b120), .unset, .unset] [(.int (0 : Int32)), (.ref b114)])) (fun t_ k_ => XS.iconst X138.here hx rfl (hb hby at_141) k_) ?_
      have Nz140 : b114 ≠ b120 := (Nat.ne_of_lt (Nat.lt_of_lt_of_le ((Xa114.keep K115q).keep K116q).lt (Nat.le_of_eq g120.symm)))
      have Fz141 := (Fz137.keep K138q (ninS Nz140 nin0))
      obtain ⟨_, _, ⟨T142, Lu142, ku142, nu142⟩, -, X142, ⟨Lc142, hQ142, lu142, yu142, zu142⟩, st142⟩ := Jvm.LawKit.callS X138 hx (y := (⟨"com/example/trailcaster/trailcaster/model/ParticipantObjectQueryPinLaw", "flip", "([BI)V"⟩ : MethodName)) hown (mvT hZ (hw _ (List.mem_of_getElem? (i := 216) rfl))) (mvT hZ (hw _ (List.mem_of_getElem? (i := 217) rfl))) (mvT hZ (hw _ (List.mem_of_getElem? (i := 73) rfl))) (mvT hZ (hw _ (List.mem_of_getElem? (i := 218) rfl))) (by decide) (backOf (W := 0) (rm_flipi l Z a0 hw [] (b114) (k114) ((2 : Int32)) ([(.int (nar .byte (p2.toInt8.toInt32))), (.int (nar .byte (p3.toInt8.toInt32)))]) ((0 : Int32)) (0) ((nar .byte (p2.toInt8.toInt32))) T138.heap O138 Fz141 (by decide) (by decide) rfl (Nat.le_of_ble_eq_true rfl) ge_b114 rfl) hZ (hw _ (List.mem_of_getElem? (i := 218) rfl)) (hw _ (List.mem_of_getElem? (i := 73) rfl)) (by decide) (by decide)) (g := (mkF m 142 #[.val (.int p0), .val (.int p1), .val (.int p2), .val (.int p3), .val (.int p4), .val (.int p5), .val (.ref b1), .val (.ref b17), .val (.int (2 : Int32)), .val (.ref b114), .val (.ref b120), .unset, .unset] [(.int (0 : Int32)), (.ref b114)])) rfl (by rw [hml]; rfl) (argsL := [(.ref b114), (.int (0 : Int32))]) (rest := []) (lenOf own_pd19 rfl) rfl (by show 2 * 0 + _ ≤ _; exact Nat.le_of_eq rfl) (hb hby at_142) (fun _ _ => ⟨rfl, rfl, (by decide : 34 + 0 ≤ _), (by decide : 377 + 0 ≤ _)⟩)
      dsimp only [Pt.U, Pt.locs, Pt.cells, Pt.slots] at X142 lu142 yu142 zu142 st142 hQ142
      subst lu142 yu142 zu142
      obtain ⟨rfl, N142q, K142q, A142q⟩ := hQ142
      have N142 := Fr.app N138 N142q
      have A142r : Arv Z T142.heap b114 k114 .byte (2 : Int32) [(.int (nar .byte ((((nar .byte (p2.toInt8.toInt32)) ^^^ (-1 : Int32)).toInt8.toInt32)))), (.int (nar .byte (p3.toInt8.toInt32)))] (.int 0) := A142q
      have O142 := own_extK O138 K142q (allS ge_b114 all0)
      have KK142 : Keep h0 T142.heap [] := KK138.trans K142q (allS (Or.inr sz_b114) all0)
      have Fz143 := (C138.safe Fz136.lt (CC122.safe ((((Xa114.keep K115q).keep K116q).ext E120).ext E121).lt (CC121.safe (((Xa114.keep K115q).keep K116q).ext E120).lt (Safe.ext E120 R116.1 (Safe.keep K116q (allS Fz117 all0) R115.1 Fz117)))))
      have R142 := R138.trans (CHr.keep K142q (allS Fz143 all0) R138.1)
      refine own_go (T142.setTop (mkF m 145 #[.val (.int p0), .val (.int p1), .val (.int p2), .val (.int p3), .val (.int p4), .val (.int p5), .val (.ref b1), .val (.ref b17), .val (.int (2 : Int32)), .val (.ref b114), .val (.ref b120), .unset, .unset] [])) (fun t_ k_ => st142 _ k_) ?_
      refine own_go (T142.setTop (mkF m 147 #[.val (.int p0), .val (.int p1), .val (.int p2), .val (.int p3), .val (.int p4), .val (.int p5), .val (.ref b1), .val (.ref b17), .val (.int (2 : Int32)), .val (.ref b114), .val (.ref b120), .unset, .unset] [(.ref b114)])) (fun t_ k_ => XS.aload X142.here hx rfl (hb hby at_145) rfl rfl k_) ?_
      refine own_go (T142.setTop (mkF m 148 #[.val (.int p0), .val (.int p1), .val (.int p2), .val (.int p3), .val (.int p4), .val (.int p5), .val (.ref b1), .val (.ref b17), .val (.int (2 : Int32)), .val (.ref b114), .val (.ref b120), .unset, .unset] [(.int (1 : Int32)), (.ref b114)])) (fun t_ k_ => XS.iconst X142.here hx rfl (hb hby at_147) k_) ?_
      obtain ⟨_, _, ⟨T144, Lu144, ku144, nu144⟩, -, X144, ⟨Lc144, hQ144, lu144, yu144, zu144⟩, st144⟩ := Jvm.LawKit.callS X142 hx (y := (⟨"com/example/trailcaster/trailcaster/model/ParticipantObjectQueryPinLaw", "flip", "([BI)V"⟩ : MethodName)) hown (mvT hZ (hw _ (List.mem_of_getElem? (i := 216) rfl))) (mvT hZ (hw _ (List.mem_of_getElem? (i := 217) rfl))) (mvT hZ (hw _ (List.mem_of_getElem? (i := 73) rfl))) (mvT hZ (hw _ (List.mem_of_getElem? (i := 218) rfl))) (by decide) (backOf (W := 0) (rm_flipi l Z a0 hw [] (b114) (k114) ((2 : Int32)) ([(.int (nar .byte ((((nar .byte (p2.toInt8.toInt32)) ^^^ (-1 : Int32)).toInt8.toInt32)))), (.int (nar .byte (p3.toInt8.toInt32)))]) ((1 : Int32)) (1) ((nar .byte (p3.toInt8.toInt32))) T142.heap O142 A142r (by decide) (by decide) rfl (Nat.le_of_ble_eq_true rfl) ge_b114 rfl) hZ (hw _ (List.mem_of_getElem? (i := 218) rfl)) (hw _ (List.mem_of_getElem? (i := 73) rfl)) (by decide) (by decide)) (g := (mkF m 148 #[.val (.int p0), .val (.int p1), .val (.int p2), .val (.int p3), .val (.int p4), .val (.int p5), .val (.ref b1), .val (.ref b17), .val (.int (2 : Int32)), .val (.ref b114), .val (.ref b120), .unset, .unset] [(.int (1 : Int32)), (.ref b114)])) rfl (by rw [hml]; rfl) (argsL := [(.ref b114), (.int (1 : Int32))]) (rest := []) (lenOf own_pd19 rfl) rfl (by show 2 * 0 + _ ≤ _; exact Nat.le_of_eq rfl) (hb hby at_148) (fun _ _ => ⟨rfl, rfl, (by decide : 34 + 0 ≤ _), (by decide : 377 + 0 ≤ _)⟩)
      dsimp only [Pt.U, Pt.locs, Pt.cells, Pt.slots] at X144 lu144 yu144 zu144 st144 hQ144
      subst lu144 yu144 zu144
      obtain ⟨rfl, N144q, K144q, A144q⟩ := hQ144
      have N144 := Fr.app N142 N144q
      have A144r : Arv Z T144.heap b114 k114 .byte (2 : Int32) [(.int (nar .byte ((((nar .byte (p2.toInt8.toInt32)) ^^^ (-1 : Int32)).toInt8.toInt32)))), (.int (nar .byte ((((nar .byte (p3.toInt8.toInt32)) ^^^ (-1 : Int32)).toInt8.toInt32))))] (.int 0) := A144q
      have O144 := own_extK O142 K144q (allS ge_b114 all0)
      have KK144 : Keep h0 T144.heap [] := KK142.trans K144q (allS (Or.inr sz_b114) all0)
      have Fz145 := (Safe.keep K142q (allS Fz143 all0) R138.1 Fz143)
      have R144 := R142.trans (CHr.keep K144q (allS Fz145 all0) R142.1)
      refine own_go (T144.setTop (mkF m 151 #[.val (.int p0), .val (.int p1), .val (.int p2), .val (.int p3), .val (.int p4), .val (.int p5), .val (.ref b1), .val (.ref b17), .val (.int (2 : Int32)), .val (.ref b114), .val (.ref b120), .unset, .unset] [])) (fun t_ k_ => st144 _ k_) ?_
      refine own_go (T144.setTop (mkF m 153 #[.val (.int p0), .val (.int p1), .val (.int p2), .val (.int p3), .val (.int p4), .val (.int p5), .val (.ref b1), .val (.ref b17), .val (.int (2 : Int32)), .val (.ref b114), .val (.ref b120), .unset, .unset] [(.ref b114)])) (fun t_ k_ => XS.aload X144.here hx rfl (hb hby at_151) rfl rfl k_) ?_
      refine own_go (T144.setTop (mkF m 154 #[.val (.int p0), .val (.int p1), .val (.int p2), .val (.int p3), .val (.int p4), .val (.int p5), .val (.ref b1), .val (.ref b17), .val (.int (2 : Int32)), .val (.ref b114), .val (.ref b120), .unset, .unset] [(.int (2 : Int32)), (.ref b114)])) (fun t_ k_ => XS.iconst X144.here hx rfl (hb hby at_153) k_) ?_
      obtain ⟨_, _, ⟨T146, Lu146, ku146, nu146⟩, -, X146, ⟨Lc146, hQ146, lu146, yu146, zu146⟩, st146⟩ := Jvm.LawKit.callS X144 hx (y := (⟨"com/example/trailcaster/trailcaster/model/ParticipantObjectQueryPinLaw", "flip", "([BI)V"⟩ : MethodName)) hown (mvT hZ (hw _ (List.mem_of_getElem? (i := 216) rfl))) (mvT hZ (hw _ (List.mem_of_getElem? (i := 217) rfl))) (mvT hZ (hw _ (List.mem_of_getElem? (i := 73) rfl))) (mvT hZ (hw _ (List.mem_of_getElem? (i := 218) rfl))) (by decide) (backOf (W := 0) (rm_flipo l Z a0 hw [] (b114) (k114) ((2 : Int32)) ([(.int (nar .byte ((((nar .byte (p2.toInt8.toInt32)) ^^^ (-1 : Int32)).toInt8.toInt32)))), (.int (nar .byte ((((nar .byte (p3.toInt8.toInt32)) ^^^ (-1 : Int32)).toInt8.toInt32))))]) ((2 : Int32)) T144.heap O144 A144r (by decide)) hZ (hw _ (List.mem_of_getElem? (i := 218) rfl)) (hw _ (List.mem_of_getElem? (i := 73) rfl)) (by decide) (by decide)) (g := (mkF m 154 #[.val (.int p0), .val (.int p1), .val (.int p2), .val (.int p3), .val (.int p4), .val (.int p5), .val (.ref b1), .val (.ref b17), .val (.int (2 : Int32)), .val (.ref b114), .val (.ref b120), .unset, .unset] [(.int (2 : Int32)), (.ref b114)])) rfl (by rw [hml]; rfl) (argsL := [(.ref b114), (.int (2 : Int32))]) (rest := []) (lenOf own_pd19 rfl) rfl (by show 2 * 0 + _ ≤ _; exact Nat.le_of_eq rfl) (hb hby at_154) (fun _ _ => ⟨rfl, rfl, (by decide : 34 + 0 ≤ _), (by decide : 377 + 0 ≤ _)⟩)
      dsimp only [Pt.U, Pt.locs, Pt.cells, Pt.slots] at X146 lu146 yu146 zu146 st146 hQ146
      subst lu146 yu146 zu146
      obtain ⟨rfl, N146q, e146⟩ := hQ146
      have N146 := Fr.app N144 N146q
      refine own_go (T146.setTop (mkF m 157 #[.val (.int p0), .val (.int p1), .val (.int p2), .val (.int p3), .val (.int p4), .val (.int p5), .val (.ref b1), .val (.ref b17), .val (.int (2 : Int32)), .val (.ref b114), .val (.ref b120), .unset, .unset] [])) (fun t_ k_ => st146 _ k_) ?_
      refine own_go (T146.setTop (mkF m 159 #[.val (.int p0), .val (.int p1), .val (.int p2), .val (.int p3), .val (.int p4), .val (.int p5), .val (.ref b1), .val (.ref b17), .val (.int (2 : Int32)), .val (.ref b114), .val (.ref b120), .unset, .unset] [(.ref b114)])) (fun t_ k_ => XS.aload X146.here hx rfl (hb hby at_157) rfl rfl k_) ?_
      refine own_go (T146.setTop (mkF m 160 #[.val (.int p0), .val (.int p1), .val (.int p2), .val (.int p3), .val (.int p4), .val (.int p5), .val (.ref b1), .val (.ref b17), .val (.int (2 : Int32)), .val (.ref b114), .val (.ref b120), .unset, .unset] [(.int (3 : Int32)), (.ref b114)])) (fun t_ k_ => XS.iconst X146.here hx rfl (hb hby at_159) k_) ?_
      obtain ⟨_, _, ⟨T147, Lu147, ku147, nu147⟩, -, X147, ⟨Lc147, hQ147, lu147, yu147, zu147⟩, st147⟩ := Jvm.LawKit.callS X146 hx (y := (⟨"com/example/trailcaster/trailcaster/model/ParticipantObjectQueryPinLaw", "flip", "([BI)V"⟩ : MethodName)) hown (mvT hZ (hw _ (List.mem_of_getElem? (i := 216) rfl))) (mvT hZ (hw _ (List.mem_of_getElem? (i := 217) rfl))) (mvT hZ (hw _ (List.mem_of_getElem? (i := 73) rfl))) (mvT hZ (hw _ (List.mem_of_getElem? (i := 218) rfl))) (by decide) (backOf (W := 0) (rm_flipo l Z a0 hw [] (b114) (k114) ((2 : Int32)) ([(.int (nar .byte ((((nar .byte (p2.toInt8.toInt32)) ^^^ (-1 : Int32)).toInt8.toInt32)))), (.int (nar .byte ((((nar .byte (p3.toInt8.toInt32)) ^^^ (-1 : Int32)).toInt8.toInt32))))]) ((3 : Int32)) T144.heap O144 A144r (by decide)) hZ (hw _ (List.mem_of_getElem? (i := 218) rfl)) (hw _ (List.mem_of_getElem? (i := 73) rfl)) (by decide) (by decide)) (g := (mkF m 160 #[.val (.int p0), .val (.int p1), .val (.int p2), .val (.int p3), .val (.int p4), .val (.int p5), .val (.ref b1), .val (.ref b17), .val (.int (2 : Int32)), .val (.ref b114), .val (.ref b120), .unset, .unset] [(.int (3 : Int32)), (.ref b114)])) rfl (by rw [hml]; rfl) (argsL := [(.ref b114), (.int (3 : Int32))]) (rest := []) (lenOf own_pd19 rfl) rfl (by show 2 * 0 + _ ≤ _; exact Nat.le_of_eq rfl) (hb hby at_160) (fun _ _ => ⟨rfl, e146, (by decide : 34 + 0 ≤ _), (by decide : 377 + 0 ≤ _)⟩)
      dsimp only [Pt.U, Pt.locs, Pt.cells, Pt.slots] at X147 lu147 yu147 zu147 st147 hQ147
      subst lu147 yu147 zu147
      obtain ⟨rfl, N147q, e147⟩ := hQ147
      have N147 := Fr.app N146 N147q
      refine own_go (T147.setTop (mkF m 163 #[.val (.int p0), .val (.int p1), .val (.int p2), .val (.int p3), .val (.int p4), .val (.int p5), .val (.ref b1), .val (.ref b17), .val (.int (2 : Int32)), .val (.ref b114), .val (.ref b120), .unset, .unset] [])) (fun t_ k_ => st147 _ k_) ?_
      refine own_go (T147.setTop (mkF m 165 #[.val (.int p0), .val (.int p1), .val (.int p2), .val (.int p3), .val (.int p4), .val (.int p5), .val (.ref b1), .val (.ref b17), .val (.int (2 : Int32)), .val (.ref b114), .val (.ref b120), .unset, .unset] [(.ref b120)])) (fun t_ k_ => XS.aload X147.here hx rfl (hb hby at_163) rfl rfl k_) ?_
      have Fz148 := ((F138q.keep K142q (ninS (Ne.symm Nz140) nin0)).keep K144q (ninS (Ne.symm Nz140) nin0))
      have Fz149 := ((Y138q.keep K142q).keep K144q)
      have Nz150 : b114 ≠ r138 := (Nat.ne_of_lt (Nat.lt_of_lt_of_le Fz136.lt u2_138))
      have Fz151 := ((A138q.keep K142q (ninS (Ne.symm Nz150) nin0)).keep K144q (ninS (Ne.symm Nz150) nin0))
      have Fz153 := ((X138q.keep K142q).keep K144q)
      obtain ⟨cq152, kq152, q152a, q152b, q152c⟩ := isOf hZ e147 Fz153
      obtain ⟨_, _, ⟨T152, Lu152, ku152, nu152⟩, -, X152, ⟨Lc152, hQ152, lu152, yu152, zu152⟩, st152⟩ := X147.virtualBack hx (y := (⟨"com/example/trailcaster/trailcaster/model/ParticipantObject", "query", "()[B"⟩ : MethodName)) (z := (⟨"com/example/trailcaster/trailcaster/model/ParticipantObject", "query", "()[B"⟩ : MethodName)) hown (mvT hZ (hw _ (List.mem_of_getElem? (i := 219) rfl))) (mvT hZ (hw _ (List.mem_of_getElem? (i := 220) rfl))) (notFace_of_selects (args := #[]) (mvT hZ (hw _ (List.mem_of_getElem? (i := 222) rfl)))) (mvT hZ (hw _ (List.mem_of_getElem? (i := 222) rfl))) (mvT hZ (hw _ (List.mem_of_getElem? (i := 221) rfl))) (by decide) (backOf (W := 0) (rm_qyB l Z a0 hw [] (b120) (r138) (k114) ((2 : Int32)) ([(.int (nar .byte (p2.toInt8.toInt32))), (.int (nar .byte (p3.toInt8.toInt32)))]) T144.heap O144 Fz148 Fz149 Fz151 (by decide)) hZ (hw _ (List.mem_of_getElem? (i := 223) rfl)) (hw _ (List.mem_of_getElem? (i := 77) rfl)) (by decide) (by decide)) q152a q152c (g := (mkF m 165 #[.val (.int p0), .val (.int p1), .val (.int p2), .val (.int p3), .val (.int p4), .val (.int p5), .val (.ref b1), .val (.ref b17), .val (.int (2 : Int32)), .val (.ref b114), .val (.ref b120), .unset, .unset] [(.ref b120)])) rfl (by rw [hml]; rfl) (Steps.refl _) (argsL := []) (rest := []) (lenOf own_pd20 rfl) rfl (by show 2 * 0 + _ ≤ _; exact Nat.le_of_eq rfl) (hb hby at_165) (fun _ _ => ⟨rfl, e147, (by decide : 34 + 1 ≤ _), (by decide : 377 + 4 ≤ _)⟩)
      dsimp only [Pt.U, Pt.locs, Pt.cells, Pt.slots] at X152 lu152 yu152 zu152 st152 hQ152
      subst lu152 yu152 zu152
      obtain ⟨r152, rfl, N152q, K152q, u2_152, A152q⟩ := hQ152
      have N152 := Fr.app N147 N152q
      have Sn152 := own_snew R144.1 u2_152
      have O152 := own_extK O144 K152q all0
      have KK152 : Keep h0 T152.heap [] := KK144.trans K152q all0
      have R152 := R144.trans (CHr.keep K152q all0 R144.1)
      refine own_go (T152.setTop (mkF m 168 #[.val (.int p0), .val (.int p1), .val (.int p2), .val (.int p3), .val (.int p4), .val (.int p5), .val (.ref b1), .val (.ref b17), .val (.int (2 : Int32)), .val (.ref b114), .val (.ref b120), .unset, .unset] [(.ref r152)])) (fun t_ k_ => st152.trans k_) ?_
      refine own_go (T152.setTop (mkF m 170 #[.val (.int p0), .val (.int p1), .val (.int p2), .val (.int p3), .val (.int p4), .val (.int p5), .val (.ref b1), .val (.ref b17), .val (.int (2 : Int32)), .val (.ref b114), .val (.ref b120), .val (.ref r152), .unset] [])) (fun t_ k_ => XS.astore X152.here hx rfl (hb hby at_168) rfl rfl (l' := #[.val (.int p0), .val (.int p1), .val (.int p2), .val (.int p3), .val (.int p4), .val (.int p5), .val (.ref b1), .val (.ref b17), .val (.int (2 : Int32)), .val (.ref b114), .val (.ref b120), .val (.ref r152), .unset]) rfl k_) ?_
      refine own_go (T152.setTop (mkF m 172 #[.val (.int p0), .val (.int p1), .val (.int p2), .val (.int p3), .val (.int p4), .val (.int p5), .val (.ref b1), .val (.ref b17), .val (.int (2 : Int32)), .val (.ref b114), .val (.ref b120), .val (.ref r152), .unset] [(.ref r152)])) (fun t_ k_ => XS.aload X152.here hx rfl (hb hby at_170) rfl rfl k_) ?_
      refine own_go (T152.setTop (mkF m 175 #[.val (.int p0), .val (.int p1), .val (.int p2), .val (.int p3), .val (.int p4), .val (.int p5), .val (.ref b1), .val (.ref b17), .val (.int (2 : Int32)), .val (.ref b114), .val (.ref b120), .val (.ref r152), .unset] [])) (fun t_ k_ => XS.ifnullNo X152.here hx rfl (hb hby at_172) rfl k_) ?_
      refine own_go (T152.setTop (mkF m 177 #[.val (.int p0), .val (.int p1), .val (.int p2), .val (.int p3), .val (.int p4), .val (.int p5), .val (.ref b1), .val (.ref b17), .val (.int (2 : Int32)), .val (.ref b114), .val (.ref b120), .val (.ref r152), .unset] [(.ref r152)])) (fun t_ k_ => XS.aload X152.here hx rfl (hb hby at_175) rfl rfl k_) ?_
      refine own_go (T152.setTop (mkF m 179 #[.val (.int p0), .val (.int p1), .val (.int p2), .val (.int p3), .val (.int p4), .val (.int p5), .val (.ref b1), .val (.ref b17), .val (.int (2 : Int32)), .val (.ref b114), .val (.ref b120), .val (.ref r152), .unset] [(.int (2 : Int32)), (.ref r152)])) (fun t_ k_ => XS.iload X152.here hx rfl (hb hby at_177) rfl k_) ?_
      refine own_go (T152.setTop (mkF m 180 #[.val (.int p0), .val (.int p1), .val (.int p2), .val (.int p3), .val (.int p4), .val (.int p5), .val (.ref b1), .val (.ref b17), .val (.int (2 : Int32)), .val (.ref b114), .val (.ref b120), .val (.ref r152), .unset] [(.int p2), (.int (2 : Int32)), (.ref r152)])) (fun t_ k_ => XS.iloadN X152.here hx rfl (hb hby at_179) rfl k_) ?_
      refine own_go (T152.setTop (mkF m 181 #[.val (.int p0), .val (.int p1), .val (.int p2), .val (.int p3), .val (.int p4), .val (.int p5), .val (.ref b1), .val (.ref b17), .val (.int (2 : Int32)), .val (.ref b114), .val (.ref b120), .val (.ref r152), .unset] [(.int p3), (.int p2), (.int (2 : Int32)), (.ref r152)])) (fun t_ k_ => XS.iloadN X152.here hx rfl (hb hby at_180) rfl k_) ?_
      refine own_go (T152.setTop (mkF m 183 #[.val (.int p0), .val (.int p1), .val (.int p2), .val (.int p3), .val (.int p4), .val (.int p5), .val (.ref b1), .val (.ref b17), .val (.int (2 : Int32)), .val (.ref b114), .val (.ref b120), .val (.ref r152), .unset] [(.int p4), (.int p3), (.int p2), (.int (2 : Int32)), (.ref r152)])) (fun t_ k_ => XS.iload X152.here hx rfl (hb hby at_181) rfl k_) ?_
      refine own_go (T152.setTop (mkF m 185 #[.val (.int p0), .val (.int p1), .val (.int p2), .val (.int p3), .val (.int p4), .val (.int p5), .val (.ref b1), .val (.ref b17), .val (.int (2 : Int32)), .val (.ref b114), .val (.ref b120), .val (.ref r152), .unset] [(.int p5), (.int p4), (.int p3), (.int p2), (.int (2 : Int32)), (.ref r152)])) (fun t_ k_ => XS.iload X152.here hx rfl (hb hby at_183) rfl k_) ?_
      obtain ⟨_, _, ⟨T154, Lu154, ku154, nu154⟩, -, X154, ⟨Lc154, hQ154, lu154, yu154, zu154⟩, st154⟩ := Jvm.LawKit.callS X152 hx (y := (⟨"com/example/trailcaster/trailcaster/model/ParticipantObjectQueryPinLaw", "same", "([BIIIII)Z"⟩ : MethodName)) hown (mvT hZ (hw _ (List.mem_of_getElem? (i := 224) rfl))) (mvT hZ (hw _ (List.mem_of_getElem? (i := 225) rfl))) (mvT hZ (hw _ (List.mem_of_getElem? (i := 73) rfl))) (mvT hZ (hw _ (List.mem_of_getElem? (i := 226) rfl))) (by decide) (backOf (W := 0) (rm_same2 l Z a0 hw [] (r152) (k114) (p2) (p3) (p4) (p5) T152.heap O152 A152q) hZ (hw _ (List.mem_of_getElem? (i := 226) rfl)) (hw _ (List.mem_of_getElem? (i := 73) rfl)) (by decide) (by decide)) (g := (mkF m 185 #[.val (.int p0), .val (.int p1), .val (.int p2), .val (.int p3), .val (.int p4), .val (.int p5), .val (.ref b1), .val (.ref b17), .val (.int (2 : Int32)), .val (.ref b114), .val (.ref b120), .val (.ref r152), .unset] [(.int p5), (.int p4), (.int p3), (.int p2), (.int (2 : Int32)), (.ref r152)])) rfl (by rw [hml]; rfl) (argsL := [(.ref r152), (.int (2 : Int32)), (.int p2), (.int p3), (.int p4), (.int p5)]) (rest := []) (lenOf own_pd21 rfl) rfl (by show 2 * 0 + _ ≤ _; exact Nat.le_of_eq rfl) (hb hby at_185) (fun _ _ => ⟨rfl, rfl, (by decide : 35 + 0 ≤ _), (by decide : 381 + 0 ≤ _)⟩)
      dsimp only [Pt.U, Pt.locs, Pt.cells, Pt.slots] at X154 lu154 yu154 zu154 st154 hQ154
      subst lu154 yu154 zu154
      obtain ⟨rfl, N154q, e154⟩ := hQ154
      have N154 := Fr.app N152 N154q
      refine own_go (T154.setTop (mkF m 188 #[.val (.int p0), .val (.int p1), .val (.int p2), .val (.int p3), .val (.int p4), .val (.int p5), .val (.ref b1), .val (.ref b17), .val (.int (2 : Int32)), .val (.ref b114), .val (.ref b120), .val (.ref r152), .unset] [(.int (1 : Int32))])) (fun t_ k_ => st154 _ k_) ?_
      refine own_go (T154.setTop (mkF m 193 #[.val (.int p0), .val (.int p1), .val (.int p2), .val (.int p3), .val (.int p4), .val (.int p5), .val (.ref b1), .val (.ref b17), .val (.int (2 : Int32)), .val (.ref b114), .val (.ref b120), .val (.ref r152), .unset] [])) (fun t_ k_ => XS.ifYes X154.here hx rfl (pc0 := 188) (pc' := 193) rfl (hb hby at_188) rfl ((if0 _ _).trans (feq (by decide : ¬ ((1 : Int32) = (0 : Int32)))).2) (by decide) (by decide) k_) ?_
      refine own_go (T154.setTop (mkF m 195 #[.val (.int p0), .val (.int p1), .val (.int p2), .val (.int p3), .val (.int p4), .val (.int p5), .val (.ref b1), .val (.ref b17), .val (.int (2 : Int32)), .val (.ref b114), .val (.ref b120), .val (.ref r152), .unset] [(.ref r152)])) (fun t_ k_ => XS.aload X154.here hx rfl (hb hby at_193) rfl rfl k_) ?_
      refine own_go (T154.setTop (mkF m 196 #[.val (.int p0), .val (.int p1), .val (.int p2), .val (.int p3), .val (.int p4), .val (.int p5), .val (.ref b1), .val (.ref b17), .val (.int (2 : Int32)), .val (.ref b114), .val (.ref b120), .val (.ref r152), .unset] [(.int (0 : Int32)), (.ref r152)])) (fun t_ k_ => XS.iconst X154.here hx rfl (hb hby at_195) k_) ?_
      obtain ⟨_, _, ⟨T155, Lu155, ku155, nu155⟩, -, X155, ⟨Lc155, hQ155, lu155, yu155, zu155⟩, st155⟩ := Jvm.LawKit.callS X154 hx (y := (⟨"com/example/trailcaster/trailcaster/model/ParticipantObjectQueryPinLaw", "flip", "([BI)V"⟩ : MethodName)) hown (mvT hZ (hw _ (List.mem_of_getElem? (i := 216) rfl))) (mvT hZ (hw _ (List.mem_of_getElem? (i := 217) rfl))) (mvT hZ (hw _ (List.mem_of_getElem? (i := 73) rfl))) (mvT hZ (hw _ (List.mem_of_getElem? (i := 218) rfl))) (by decide) (backOf (W := 0) (rm_flipi l Z a0 hw [] (r152) (k114) ((2 : Int32)) ([(.int (nar .byte (p2.toInt8.toInt32))), (.int (nar .byte (p3.toInt8.toInt32)))]) ((0 : Int32)) (0) ((nar .byte (p2.toInt8.toInt32))) T152.heap O152 A152q (by decide) (by decide) rfl (Nat.le_of_ble_eq_true rfl) (Nat.le_trans O144.1 u2_152) rfl) hZ (hw _ (List.mem_of_getElem? (i := 218) rfl)) (hw _ (List.mem_of_getElem? (i := 73) rfl)) (by decide) (by decide)) (g := (mkF m 196 #[.val (.int p0), .val (.int p1), .val (.int p2), .val (.int p3), .val (.int p4), .val (.int p5), .val (.ref b1), .val (.ref b17), .val (.int (2 : Int32)), .val (.ref b114), .val (.ref b120), .val (.ref r152), .unset] [(.int (0 : Int32)), (.ref r152)])) rfl (by rw [hml]; rfl) (argsL := [(.ref r152), (.int (0 : Int32))]) (rest := []) (lenOf own_pd19 rfl) rfl (by show 2 * 0 + _ ≤ _; exact Nat.le_of_eq rfl) (hb hby at_196) (fun _ _ => ⟨rfl, e154, (by decide : 35 + 0 ≤ _), (by decide : 381 + 0 ≤ _)⟩)
      dsimp only [Pt.U, Pt.locs, Pt.cells, Pt.slots] at X155 lu155 yu155 zu155 st155 hQ155
      subst lu155 yu155 zu155
      obtain ⟨rfl, N155q, K155q, A155q⟩ := hQ155
      have N155 := Fr.app N154 N155q
      have A155r : Arv Z T155.heap r152 k114 .byte (2 : Int32) [(.int (nar .byte ((((nar .byte (p2.toInt8.toInt32)) ^^^ (-1 : Int32)).toInt8.toInt32)))), (.int (nar .byte (p3.toInt8.toInt32)))] (.int 0) := A155q
      have O155 := own_extK O152 K155q (allS (Nat.le_trans O144.1 u2_152) all0)
      have KK155 : Keep h0 T155.heap [] := KK152.trans K155q (allS (Or.inr (Nat.le_trans KK144.1 u2_152)) all0)
      have Fz156 := (Safe.keep K152q all0 R144.1 Sn152)
      have R155 := R152.trans (CHr.keep K155q (allS Fz156 all0) R152.1)
      refine own_go (T155.setTop (mkF m 199 #[.val (.int p0), .val (.int p1), .val (.int p2), .val (.int p3), .val (.int p4), .val (.int p5), .val (.ref b1), .val (.ref b17), .val (.int (2 : Int32)), .val (.ref b114), .val (.ref b120), .val (.ref r152), .unset] [])) (fun t_ k_ => st155 _ k_) ?_
      refine own_go (T155.setTop (mkF m 201 #[.val (.int p0), .val (.int p1), .val (.int p2), .val (.int p3), .val (.int p4), .val (.int p5), .val (.ref b1), .val (.ref b17), .val (.int (2 : Int32)), .val (.ref b114), .val (.ref b120), .val (.ref r152), .unset] [(.ref r152)])) (fun t_ k_ => XS.aload X155.here hx rfl (hb hby at_199) rfl rfl k_) ?_
      refine own_go (T155.setTop (mkF m 202 #[.val (.int p0), .val (.int p1), .val (.int p2), .val (.int p3), .val (.int p4), .val (.int p5), .val (.ref b1), .val (.ref b17), .val (.int (2 : Int32)), .val (.ref b114), .val (.ref b120), .val (.ref r152), .unset] [(.int (1 : Int32)), (.ref r152)])) (fun t_ k_ => XS.iconst X155.here hx rfl (hb hby at_201) k_) ?_
      obtain ⟨_, _, ⟨T157, Lu157, ku157, nu157⟩, -, X157, ⟨Lc157, hQ157, lu157, yu157, zu157⟩, st157⟩ := Jvm.LawKit.callS X155 hx (y := (⟨"com/example/trailcaster/trailcaster/model/ParticipantObjectQueryPinLaw", "flip", "([BI)V"⟩ : MethodName)) hown (mvT hZ (hw _ (List.mem_of_getElem? (i := 216) rfl))) (mvT hZ (hw _ (List.mem_of_getElem? (i := 217) rfl))) (mvT hZ (hw _ (List.mem_of_getElem? (i := 73) rfl))) (mvT hZ (hw _ (List.mem_of_getElem? (i := 218) rfl))) (by decide) (backOf (W := 0) (rm_flipi l Z a0 hw [] (r152) (k114) ((2 : Int32)) ([(.int (nar .byte ((((nar .byte (p2.toInt8.toInt32)) ^^^ (-1 : Int32)).toInt8.toInt32)))), (.int (nar .byte (p3.toInt8.toInt32)))]) ((1 : Int32)) (1) ((nar .byte (p3.toInt8.toInt32))) T155.heap O155 A155r (by decide) (by decide) rfl (Nat.le_of_ble_eq_true rfl) (Nat.le_trans O144.1 u2_152) rfl) hZ (hw _ (List.mem_of_getElem? (i := 218) rfl)) (hw _ (List.mem_of_getElem? (i := 73) rfl)) (by decide) (by decide)) (g := (mkF m 202 #[.val (.int p0), .val (.int p1), .val (.int p2), .val (.int p3), .val (.int p4), .val (.int p5), .val (.ref b1), .val (.ref b17), .val (.int (2 : Int32)), .val (.ref b114), .val (.ref b120), .val (.ref r152), .unset] [(.int (1 : Int32)), (.ref r152)])) rfl (by rw [hml]; rfl) (argsL := [(.ref r152), (.int (1 : Int32))]) (rest := []) (lenOf own_pd19 rfl) rfl (by show 2 * 0 + _ ≤ _; exact Nat.le_of_eq rfl) (hb hby at_202) (fun _ _ => ⟨rfl, rfl, (by decide : 35 + 0 ≤ _), (by decide : 381 + 0 ≤ _)⟩)
      dsimp only [Pt.U, Pt.locs, Pt.cells, Pt.slots] at X157 lu157 yu157 zu157 st157 hQ157
      subst lu157 yu157 zu157
      obtain ⟨rfl, N157q, K157q, A157q⟩ := hQ157
      have N157 := Fr.app N155 N157q
      have A157r : Arv Z T157.heap r152 k114 .byte (2 : Int32) [(.int (nar .byte ((((nar .byte (p2.toInt8.toInt32)) ^^^ (-1 : Int32)).toInt8.toInt32)))), (.int (nar .byte ((((nar .byte (p3.toInt8.toInt32)) ^^^ (-1 : Int32)).toInt8.toInt32))))] (.int 0) := A157q
      have O157 := own_extK O155 K157q (allS (Nat.le_trans O144.1 u2_152) all0)
      have KK157 : Keep h0 T157.heap [] := KK155.trans K157q (allS (Or.inr (Nat.le_trans KK144.1 u2_152)) all0)
      have Fz158 := (Safe.keep K155q (allS Fz156 all0) R152.1 Fz156)
      have R157 := R155.trans (CHr.keep K157q (allS Fz158 all0) R155.1)
      refine own_go (T157.setTop (mkF m 205 #[.val (.int p0), .val (.int p1), .val (.int p2), .val (.int p3), .val (.int p4), .val (.int p5), .val (.ref b1), .val (.ref b17), .val (.int (2 : Int32)), .val (.ref b114), .val (.ref b120), .val (.ref r152), .unset] [])) (fun t_ k_ => st157 _ k_) ?_
      refine own_go (T157.setTop (mkF m 207 #[.val (.int p0), .val (.int p1), .val (.int p2), .val (.int p3), .val (.int p4), .val (.int p5), .val (.ref b1), .val (.ref b17), .val (.int (2 : Int32)), .val (.ref b114), .val (.ref b120), .val (.ref r152), .unset] [(.ref r152)])) (fun t_ k_ => XS.aload X157.here hx rfl (hb hby at_205) rfl rfl k_) ?_
      refine own_go (T157.setTop (mkF m 208 #[.val (.int p0), .val (.int p1), .val (.int p2), .val (.int p3), .val (.int p4), .val (.int p5), .val (.ref b1), .val (.ref b17), .val (.int (2 : Int32)), .val (.ref b114), .val (.ref b120), .val (.ref r152), .unset] [(.int (2 : Int32)), (.ref r152)])) (fun t_ k_ => XS.iconst X157.here hx rfl (hb hby at_207) k_) ?_
      obtain ⟨_, _, ⟨T159, Lu159, ku159, nu159⟩, -, X159, ⟨Lc159, hQ159, lu159, yu159, zu159⟩, st159⟩ := Jvm.LawKit.callS X157 hx (y := (⟨"com/example/trailcaster/trailcaster/model/ParticipantObjectQueryPinLaw", "flip", "([BI)V"⟩ : MethodName)) hown (mvT hZ (hw _ (List.mem_of_getElem? (i := 216) rfl))) (mvT hZ (hw _ (List.mem_of_getElem? (i := 217) rfl))) (mvT hZ (hw _ (List.mem_of_getElem? (i := 73) rfl))) (mvT hZ (hw _ (List.mem_of_getElem? (i := 218) rfl))) (by decide) (backOf (W := 0) (rm_flipo l Z a0 hw [] (r152) (k114) ((2 : Int32)) ([(.int (nar .byte ((((nar .byte (p2.toInt8.toInt32)) ^^^ (-1 : Int32)).toInt8.toInt32)))), (.int (nar .byte ((((nar .byte (p3.toInt8.toInt32)) ^^^ (-1 : Int32)).toInt8.toInt32))))]) ((2 : Int32)) T157.heap O157 A157r (by decide)) hZ (hw _ (List.mem_of_getElem? (i := 218) rfl)) (hw _ (List.mem_of_getElem? (i := 73) rfl)) (by decide) (by decide)) (g := (mkF m 208 #[.val (.int p0), .val (.int p1), .val (.int p2), .val (.int p3), .val (.int p4), .val (.int p5), .val (.ref b1), .val (.ref b17), .val (.int (2 : Int32)), .val (.ref b114), .val (.ref b120), .val (.ref r152), .unset] [(.int (2 : Int32)), (.ref r152)])) rfl (by rw [hml]; rfl) (argsL := [(.ref r152), (.int (2 : Int32))]) (rest := []) (lenOf own_pd19 rfl) rfl (by show 2 * 0 + _ ≤ _; exact Nat.le_of_eq rfl) (hb hby at_208) (fun _ _ => ⟨rfl, rfl, (by decide : 35 + 0 ≤ _), (by decide : 381 + 0 ≤ _)⟩)
      dsimp only [Pt.U, Pt.locs, Pt.cells, Pt.slots] at X159 lu159 yu159 zu159 st159 hQ159
      subst lu159 yu159 zu159
      obtain ⟨rfl, N159q, e159⟩ := hQ159
      have N159 := Fr.app N157 N159q
      refine own_go (T159.setTop (mkF m 211 #[.val (.int p0), .val (.int p1), .val (.int p2), .val (.int p3), .val (.int p4), .val (.int p5), .val (.ref b1), .val (.ref b17), .val (.int (2 : Int32)), .val (.ref b114), .val (.ref b120), .val (.ref r152), .unset] [])) (fun t_ k_ => st159 _ k_) ?_
      refine own_go (T159.setTop (mkF m 213 #[.val (.int p0), .val (.int p1), .val (.int p2), .val (.int p3), .val (.int p4), .val (.int p5), .val (.ref b1), .val (.ref b17), .val (.int (2 : Int32)), .val (.ref b114), .val (.ref b120), .val (.ref r152), .unset] [(.ref r152)])) (fun t_ k_ => XS.aload X159.here hx rfl (hb hby at_211) rfl rfl k_) ?_
      refine own_go (T159.setTop (mkF m 214 #[.val (.int p0), .val (.int p1), .val (.int p2), .val (.int p3), .val (.int p4), .val (.int p5), .val (.ref b1), .val (.ref b17), .val (.int (2 : Int32)), .val (.ref b114), .val (.ref b120), .val (.ref r152), .unset] [(.int (3 : Int32)), (.ref r152)])) (fun t_ k_ => XS.iconst X159.here hx rfl (hb hby at_213) k_) ?_
      obtain ⟨_, _, ⟨T160, Lu160, ku160, nu160⟩, -, X160, ⟨Lc160, hQ160, lu160, yu160, zu160⟩, st160⟩ := Jvm.LawKit.callS X159 hx (y := (⟨"com/example/trailcaster/trailcaster/model/ParticipantObjectQueryPinLaw", "flip", "([BI)V"⟩ : MethodName)) hown (mvT hZ (hw _ (List.mem_of_getElem? (i := 216) rfl))) (mvT hZ (hw _ (List.mem_of_getElem? (i := 217) rfl))) (mvT hZ (hw _ (List.mem_of_getElem? (i := 73) rfl))) (mvT hZ (hw _ (List.mem_of_getElem? (i := 218) rfl))) (by decide) (backOf (W := 0) (rm_flipo l Z a0 hw [] (r152) (k114) ((2 : Int32)) ([(.int (nar .byte ((((nar .byte (p2.toInt8.toInt32)) ^^^ (-1 : Int32)).toInt8.toInt32)))), (.int (nar .byte ((((nar .byte (p3.toInt8.toInt32)) ^^^ (-1 : Int32)).toInt8.toInt32))))]) ((3 : Int32)) T157.heap O157 A157r (by decide)) hZ (hw _ (List.mem_of_getElem? (i := 218) rfl)) (hw _ (List.mem_of_getElem? (i := 73) rfl)) (by decide) (by decide)) (g := (mkF m 214 #[.val (.int p0), .val (.int p1), .val (.int p2), .val (.int p3), .val (.int p4), .val (.int p5), .val (.ref b1), .val (.ref b17), .val (.int (2 : Int32)), .val (.ref b114), .val (.ref b120), .val (.ref r152), .unset] [(.int (3 : Int32)), (.ref r152)])) rfl (by rw [hml]; rfl) (argsL := [(.ref r152), (.int (3 : Int32))]) (rest := []) (lenOf own_pd19 rfl) rfl (by show 2 * 0 + _ ≤ _; exact Nat.le_of_eq rfl) (hb hby at_214) (fun _ _ => ⟨rfl, e159, (by decide : 35 + 0 ≤ _), (by decide : 381 + 0 ≤ _)⟩)
      dsimp only [Pt.U, Pt.locs, Pt.cells, Pt.slots] at X160 lu160 yu160 zu160 st160 hQ160
      subst lu160 yu160 zu160
      obtain ⟨rfl, N160q, e160⟩ := hQ160
      have N160 := Fr.app N159 N160q
      refine own_go (T160.setTop (mkF m 217 #[.val (.int p0), .val (.int p1), .val (.int p2), .val (.int p3), .val (.int p4), .val (.int p5), .val (.ref b1), .val (.ref b17), .val (.int (2 : Int32)), .val (.ref b114), .val (.ref b120), .val (.ref r152), .unset] [])) (fun t_ k_ => st160 _ k_) ?_
      refine own_go (T160.setTop (mkF m 219 #[.val (.int p0), .val (.int p1), .val (.int p2), .val (.int p3), .val (.int p4), .val (.int p5), .val (.ref b1), .val (.ref b17), .val (.int (2 : Int32)), .val (.ref b114), .val (.ref b120), .val (.ref r152), .unset] [(.ref b120)])) (fun t_ k_ => XS.aload X160.here hx rfl (hb hby at_217) rfl rfl k_) ?_
      have Nz161 : b120 ≠ r152 := (Nat.ne_of_lt (Nat.lt_of_lt_of_le Fz153.lt u2_152))
      have Fz162 := (((Fz148.keep K152q nin0).keep K155q (ninS Nz161 nin0)).keep K157q (ninS Nz161 nin0))
      have Fz163 := (((Fz149.keep K152q).keep K155q).keep K157q)
      have Nz164 : r138 ≠ r152 := (Nat.ne_of_lt (Nat.lt_of_lt_of_le Fz149.lt u2_152))
      have Fz165 := (((Fz151.keep K152q nin0).keep K155q (ninS Nz164 nin0)).keep K157q (ninS Nz164 nin0))
      have Fz167 := (((Fz153.keep K152q).keep K155q).keep K157q)
      obtain ⟨cq166, kq166, q166a, q166b, q166c⟩ := isOf hZ e160 Fz167
      obtain ⟨_, _, ⟨T166, Lu166, ku166, nu166⟩, -, X166, ⟨Lc166, hQ166, lu166, yu166, zu166⟩, st166⟩ := X160.virtualBack hx (y := (⟨"com/example/trailcaster/trailcaster/model/ParticipantObject", "query", "()[B"⟩ : MethodName)) (z := (⟨"com/example/trailcaster/trailcaster/model/ParticipantObject", "query", "()[B"⟩ : MethodName)) hown (mvT hZ (hw _ (List.mem_of_getElem? (i := 219) rfl))) (mvT hZ (hw _ (List.mem_of_getElem? (i := 220) rfl))) (notFace_of_selects (args := #[]) (mvT hZ (hw _ (List.mem_of_getElem? (i := 222) rfl)))) (mvT hZ (hw _ (List.mem_of_getElem? (i := 222) rfl))) (mvT hZ (hw _ (List.mem_of_getElem? (i := 221) rfl))) (by decide) (backOf (W := 0) (rm_qyB l Z a0 hw [] (b120) (r138) (k114) ((2 : Int32)) ([(.int (nar .byte (p2.toInt8.toInt32))), (.int (nar .byte (p3.toInt8.toInt32)))]) T157.heap O157 Fz162 Fz163 Fz165 (by decide)) hZ (hw _ (List.mem_of_getElem? (i := 223) rfl)) (hw _ (List.mem_of_getElem? (i := 77) rfl)) (by decide) (by decide)) q166a q166c (g := (mkF m 219 #[.val (.int p0), .val (.int p1), .val (.int p2), .val (.int p3), .val (.int p4), .val (.int p5), .val (.ref b1), .val (.ref b17), .val (.int (2 : Int32)), .val (.ref b114), .val (.ref b120), .val (.ref r152), .unset] [(.ref b120)])) rfl (by rw [hml]; rfl) (Steps.refl _) (argsL := []) (rest := []) (lenOf own_pd20 rfl) rfl (by show 2 * 0 + _ ≤ _; exact Nat.le_of_eq rfl) (hb hby at_219) (fun _ _ => ⟨rfl, e160, (by decide : 35 + 1 ≤ _), (by decide : 381 + 4 ≤ _)⟩)
      dsimp only [Pt.U, Pt.locs, Pt.cells, Pt.slots] at X166 lu166 yu166 zu166 st166 hQ166
      subst lu166 yu166 zu166
      obtain ⟨r166, rfl, N166q, K166q, u2_166, A166q⟩ := hQ166
      have N166 := Fr.app N160 N166q
      have Sn166 := own_snew R157.1 u2_166
      have O166 := own_extK O157 K166q all0
      have KK166 : Keep h0 T166.heap [] := KK157.trans K166q all0
      have R166 := R157.trans (CHr.keep K166q all0 R157.1)
      refine own_go (T166.setTop (mkF m 222 #[.val (.int p0), .val (.int p1), .val (.int p2), .val (.int p3), .val (.int p4), .val (.int p5), .val (.ref b1), .val (.ref b17), .val (.int (2 : Int32)), .val (.ref b114), .val (.ref b120), .val (.ref r152), .unset] [(.ref r166)])) (fun t_ k_ => st166.trans k_) ?_
      refine own_go (T166.setTop (mkF m 224 #[.val (.int p0), .val (.int p1), .val (.int p2), .val (.int p3), .val (.int p4), .val (.int p5), .val (.ref b1), .val (.ref b17), .val (.int (2 : Int32)), .val (.ref b114), .val (.ref b120), .val (.ref r152), .val (.ref r166)] [])) (fun t_ k_ => XS.astore X166.here hx rfl (hb hby at_222) rfl rfl (l' := #[.val (.int p0), .val (.int p1), .val (.int p2), .val (.int p3), .val (.int p4), .val (.int p5), .val (.ref b1), .val (.ref b17), .val (.int (2 : Int32)), .val (.ref b114), .val (.ref b120), .val (.ref r152), .val (.ref r166)]) rfl k_) ?_
      refine own_go (T166.setTop (mkF m 226 #[.val (.int p0), .val (.int p1), .val (.int p2), .val (.int p3), .val (.int p4), .val (.int p5), .val (.ref b1), .val (.ref b17), .val (.int (2 : Int32)), .val (.ref b114), .val (.ref b120), .val (.ref r152), .val (.ref r166)] [(.ref r166)])) (fun t_ k_ => XS.aload X166.here hx rfl (hb hby at_224) rfl rfl k_) ?_
      refine own_go (T166.setTop (mkF m 229 #[.val (.int p0), .val (.int p1), .val (.int p2), .val (.int p3), .val (.int p4), .val (.int p5), .val (.ref b1), .val (.ref b17), .val (.int (2 : Int32)), .val (.ref b114), .val (.ref b120), .val (.ref r152), .val (.ref r166)] [])) (fun t_ k_ => XS.ifnullNo X166.here hx rfl (hb hby at_226) rfl k_) ?_
      refine own_go (T166.setTop (mkF m 231 #[.val (.int p0), .val (.int p1), .val (.int p2), .val (.int p3), .val (.int p4), .val (.int p5), .val (.ref b1), .val (.ref b17), .val (.int (2 : Int32)), .val (.ref b114), .val (.ref b120), .val (.ref r152), .val (.ref r166)] [(.ref r166)])) (fun t_ k_ => XS.aload X166.here hx rfl (hb hby at_229) rfl rfl k_) ?_
      refine own_go (T166.setTop (mkF m 233 #[.val (.int p0), .val (.int p1), .val (.int p2), .val (.int p3), .val (.int p4), .val (.int p5), .val (.ref b1), .val (.ref b17), .val (.int (2 : Int32)), .val (.ref b114), .val (.ref b120), .val (.ref r152), .val (.ref r166)] [(.int (2 : Int32)), (.ref r166)])) (fun t_ k_ => XS.iload X166.here hx rfl (hb hby at_231) rfl k_) ?_
      refine own_go (T166.setTop (mkF m 234 #[.val (.int p0), .val (.int p1), .val (.int p2), .val (.int p3), .val (.int p4), .val (.int p5), .val (.ref b1), .val (.ref b17), .val (.int (2 : Int32)), .val (.ref b114), .val (.ref b120), .val (.ref r152), .val (.ref r166)] [(.int p2), (.int (2 : Int32)), (.ref r166)])) (fun t_ k_ => XS.iloadN X166.here hx rfl (hb hby at_233) rfl k_) ?_
      refine own_go (T166.setTop (mkF m 235 #[.val (.int p0), .val (.int p1), .val (.int p2), .val (.int p3), .val (.int p4), .val (.int p5), .val (.ref b1), .val (.ref b17), .val (.int (2 : Int32)), .val (.ref b114), .val (.ref b120), .val (.ref r152), .val (.ref r166)] [(.int p3), (.int p2), (.int (2 : Int32)), (.ref r166)])) (fun t_ k_ => XS.iloadN X166.here hx rfl (hb hby at_234) rfl k_) ?_
      refine own_go (T166.setTop (mkF m 237 #[.val (.int p0), .val (.int p1), .val (.int p2), .val (.int p3), .val (.int p4), .val (.int p5), .val (.ref b1), .val (.ref b17), .val (.int (2 : Int32)), .val (.ref b114), .val (.ref b120), .val (.ref r152), .val (.ref r166)] [(.int p4), (.int p3), (.int p2), (.int (2 : Int32)), (.ref r166)])) (fun t_ k_ => XS.iload X166.here hx rfl (hb hby at_235) rfl k_) ?_
      refine own_go (T166.setTop (mkF m 239 #[.val (.int p0), .val (.int p1), .val (.int p2), .val (.int p3), .val (.int p4), .val (.int p5), .val (.ref b1), .val (.ref b17), .val (.int (2 : Int32)), .val (.ref b114), .val (.ref b120), .val (.ref r152), .val (.ref r166)] [(.int p5), (.int p4), (.int p3), (.int p2), (.int (2 : Int32)), (.ref r166)])) (fun t_ k_ => XS.iload X166.here hx rfl (hb hby at_237) rfl k_) ?_
      obtain ⟨_, _, ⟨T168, Lu168, ku168, nu168⟩, -, X168, ⟨Lc168, hQ168, lu168, yu168, zu168⟩, st168⟩ := Jvm.LawKit.callS X166 hx (y := (⟨"com/example/trailcaster/trailcaster/model/ParticipantObjectQueryPinLaw", "same", "([BIIIII)Z"⟩ : MethodName)) hown (mvT hZ (hw _ (List.mem_of_getElem? (i := 224) rfl))) (mvT hZ (hw _ (List.mem_of_getElem? (i := 225) rfl))) (mvT hZ (hw _ (List.mem_of_getElem? (i := 73) rfl))) (mvT hZ (hw _ (List.mem_of_getElem? (i := 226) rfl))) (by decide) (backOf (W := 0) (rm_same2 l Z a0 hw [] (r166) (k114) (p2) (p3) (p4) (p5) T166.heap O166 A166q) hZ (hw _ (List.mem_of_getElem? (i := 226) rfl)) (hw _ (List.mem_of_getElem? (i := 73) rfl)) (by decide) (by decide)) (g := (mkF m 239 #[.val (.int p0), .val (.int p1), .val (.int p2), .val (.int p3), .val (.int p4), .val (.int p5), .val (.ref b1), .val (.ref b17), .val (.int (2 : Int32)), .val (.ref b114), .val (.ref b120), .val (.ref r152), .val (.ref r166)] [(.int p5), (.int p4), (.int p3), (.int p2), (.int (2 : Int32)), (.ref r166)])) rfl (by rw [hml]; rfl) (argsL := [(.ref r166), (.int (2 : Int32)), (.int p2), (.int p3), (.int p4), (.int p5)]) (rest := []) (lenOf own_pd21 rfl) rfl (by show 2 * 0 + _ ≤ _; exact Nat.le_of_eq rfl) (hb hby at_239) (fun _ _ => ⟨rfl, rfl, (by decide : 36 + 0 ≤ _), (by decide : 385 + 0 ≤ _)⟩)
      dsimp only [Pt.U, Pt.locs, Pt.cells, Pt.slots] at X168 lu168 yu168 zu168 st168 hQ168
      subst lu168 yu168 zu168
      obtain ⟨rfl, N168q, e168⟩ := hQ168
      have N168 := Fr.app N166 N168q
      refine own_go (T168.setTop (mkF m 242 #[.val (.int p0), .val (.int p1), .val (.int p2), .val (.int p3), .val (.int p4), .val (.int p5), .val (.ref b1), .val (.ref b17), .val (.int (2 : Int32)), .val (.ref b114), .val (.ref b120), .val (.ref r152), .val (.ref r166)] [(.int (1 : Int32))])) (fun t_ k_ => st168 _ k_) ?_
      refine own_go (T168.setTop (mkF m 245 #[.val (.int p0), .val (.int p1), .val (.int p2), .val (.int p3), .val (.int p4), .val (.int p5), .val (.ref b1), .val (.ref b17), .val (.int (2 : Int32)), .val (.ref b114), .val (.ref b120), .val (.ref r152), .val (.ref r166)] [])) (fun t_ k_ => XS.ifNo X168.here hx rfl (hb hby at_242) rfl ((if0 _ _).trans (feq (by decide : ¬ ((1 : Int32) = (0 : Int32)))).1) k_) ?_
      refine own_go (T168.setTop (mkF m 246 #[.val (.int p0), .val (.int p1), .val (.int p2), .val (.int p3), .val (.int p4), .val (.int p5), .val (.ref b1), .val (.ref b17), .val (.int (2 : Int32)), .val (.ref b114), .val (.ref b120), .val (.ref r152), .val (.ref r166)] [(.int (1 : Int32))])) (fun t_ k_ => XS.iconst X168.here hx rfl (hb hby at_245) k_) ?_
      refine own_go (T168.setTop (mkF m 250 #[.val (.int p0), .val (.int p1), .val (.int p2), .val (.int p3), .val (.int p4), .val (.int p5), .val (.ref b1), .val (.ref b17), .val (.int (2 : Int32)), .val (.ref b114), .val (.ref b120), .val (.ref r152), .val (.ref r166)] [(.int (1 : Int32))])) (fun t_ k_ => XS.goto X168.here hx rfl (pc0 := 246) (pc' := 250) rfl (hb hby at_246) (by decide) (by decide) k_) ?_
      obtain ⟨fs, hr, hrun, hended, hRW⟩ := X168.leaveW hS (by rw [show T168.heap = T166.heap from e168]; exact (Nat.le_trans (Nat.le_trans (Nat.le_trans (Nat.le_trans (Nat.le_trans (Nat.le_trans (Nat.le_refl _) K142q.1) K144q.1) K152q.1) K155q.1) K157q.1) K166q.1)) (v := some (.int (nar .boolean (1 : Int32)))) (fun h => by rw [Bd.returns] at h; cases h)
      refine ⟨_, _, retN X168 hx (t := .boolean) Bd.returns (by simp) (hb hby at_250) hr, hrun, hended, _, _, rfl, ?_, hRW.1, hRW.2.1, hRW.2.2.1, hRW.2.2.2.mono (by decide) (by decide)⟩
      show Q_law Z p0 p1 p2 p3 p4 p5 cs0 a_EM a_DF m_A m_L m_R h0 _ T168.heap _
      exact ⟨rfl, N168, trivial⟩
    ·
      rw [hl3]
      refine own_go (T18.setTop (mkF m 81 #[.val (.int p0), .val (.int p1), .val (.int p2), .val (.int p3), .val (.int p4), .val (.int p5), .val (.ref b1), .val (.ref b17), .val (.int (3 : Int32)), .unset, .unset, .unset, .unset] [])) (fun t_ k_ => XS.istore X18.here hx rfl (hb hby at_79) rfl (l' := #[.val (.int p0), .val (.int p1), .val (.int p2), .val (.int p3), .val (.int p4), .val (.int p5), .val (.ref b1), .val (.ref b17), .val (.int (3 : Int32)), .unset, .unset, .unset, .unset]) rfl k_) ?_
      refine own_go (T18.setTop (mkF m 83 #[.val (.int p0), .val (.int p1), .val (.int p2), .val (.int p3), .val (.int p4), .val (.int p5), .val (.ref b1), .val (.ref b17), .val (.int (3 : Int32)), .unset, .unset, .unset, .unset] [(.int (3 : Int32))])) (fun t_ k_ => XS.iload X18.here hx rfl (hb hby at_81) rfl k_) ?_
      obtain ⟨T169, h169, k169, X169, e169, E169, A169, Xa169, st169⟩ := newPE X18 hx hZ (hw _ (List.mem_of_getElem? (i := 6) rfl)) rfl (g := (mkF m 83 #[.val (.int p0), .val (.int p1), .val (.int p2), .val (.int p3), .val (.int p4), .val (.int p5), .val (.ref b1), .val (.ref b17), .val (.int (3 : Int32)), .unset, .unset, .unset, .unset] [(.int (3 : Int32))])) rfl (hb hby at_83) rfl (by decide) (cap := 3) (by decide) (by decide) (by decide) (by decide) (ad := "[B") (by decide)
      obtain ⟨b169, g169⟩ : ∃ z, z = T18.heap.size := ⟨_, rfl⟩
      rw [← g169] at A169 st169 Xa169
      have ge_b169 : Z.heap.size ≤ b169 := Nat.le_trans O18.1 (Nat.le_of_eq g169.symm)
      have sz_b169 : h0.size ≤ b169 := Nat.le_trans KK18.1 (Nat.le_of_eq g169.symm)
      have R169 := R18.trans (CHr.ext E169 R18.1)
      have Sf169 := Safe.ext (x := b169) E169 R18.1 (Safe.new (Nat.le_of_eq g169.symm))
      have K169 : Keep h0 h169 [] := KK18.ext E169
      have O169 := own_ext O18 E169
      have V169 : Arv Z h169 b169 k169 .byte (3 : Int32) [(.int (0 : Int32)), (.int (0 : Int32)), (.int (0 : Int32))] (.int (0 : Int32)) := (Arv.new A169 (by decide)).pad (pad_rep [] (.int (0 : Int32)) 3)
      refine own_go (T169.setTop (mkF m 85 #[.val (.int p0), .val (.int p1), .val (.int p2), .val (.int p3), .val (.int p4), .val (.int p5), .val (.ref b1), .val (.ref b17), .val (.int (3 : Int32)), .unset, .unset, .unset, .unset] [(.ref b169)])) (fun t_ k_ => st169 _ k_) ?_
      refine own_go (T169.setTop (mkF m 87 #[.val (.int p0), .val (.int p1), .val (.int p2), .val (.int p3), .val (.int p4), .val (.int p5), .val (.ref b1), .val (.ref b17), .val (.int (3 : Int32)), .val (.ref b169), .unset, .unset, .unset] [])) (fun t_ k_ => XS.astore X169.here hx rfl (hb hby at_85) rfl rfl (l' := #[.val (.int p0), .val (.int p1), .val (.int p2), .val (.int p3), .val (.int p4), .val (.int p5), .val (.ref b1), .val (.ref b17), .val (.int (3 : Int32)), .val (.ref b169), .unset, .unset, .unset]) rfl k_) ?_
      refine own_go (T169.setTop (mkF m 89 #[.val (.int p0), .val (.int p1), .val (.int p2), .val (.int p3), .val (.int p4), .val (.int p5), .val (.ref b1), .val (.ref b17), .val (.int (3 : Int32)), .val (.ref b169), .unset, .unset, .unset] [(.ref b169)])) (fun t_ k_ => XS.aload X169.here hx rfl (hb hby at_87) rfl rfl k_) ?_
      refine own_go (T169.setTop (mkF m 90 #[.val (.int p0), .val (.int p1), .val (.int p2), .val (.int p3), .val (.int p4), .val (.int p5), .val (.ref b1), .val (.ref b17), .val (.int (3 : Int32)), .val (.ref b169), .unset, .unset, .unset] [(.int (0 : Int32)), (.ref b169)])) (fun t_ k_ => XS.iconst X169.here hx rfl (hb hby at_89) k_) ?_
      refine own_go (T169.setTop (mkF m 91 #[.val (.int p0), .val (.int p1), .val (.int p2), .val (.int p3), .val (.int p4), .val (.int p5), .val (.ref b1), .val (.ref b17), .val (.int (3 : Int32)), .val (.ref b169), .unset, .unset, .unset] [(.int p2), (.int (0 : Int32)), (.ref b169)])) (fun t_ k_ => XS.iloadN X169.here hx rfl (hb hby at_90) rfl k_) ?_
      obtain ⟨_, _, ⟨T170, Lu170, ku170, nu170⟩, -, X170, ⟨Lc170, hQ170, lu170, yu170, zu170⟩, st170⟩ := Jvm.LawKit.callS X169 hx (y := (⟨"com/example/trailcaster/trailcaster/model/ParticipantObjectQueryPinLaw", "set", "([BII)V"⟩ : MethodName)) hown (mvT hZ (hw _ (List.mem_of_getElem? (i := 71) rfl))) (mvT hZ (hw _ (List.mem_of_getElem? (i := 72) rfl))) (mvT hZ (hw _ (List.mem_of_getElem? (i := 73) rfl))) (mvT hZ (hw _ (List.mem_of_getElem? (i := 74) rfl))) (by decide) (backOf (W := 0) (rm_seti l Z a0 hw [] (b169) (k169) ((3 : Int32)) ([(.int (0 : Int32)), (.int (0 : Int32)), (.int (0 : Int32))]) ((0 : Int32)) (0) (p2) h169 O169 V169 (by decide) (by decide) rfl (Nat.le_of_ble_eq_true rfl) ge_b169) hZ (hw _ (List.mem_of_getElem? (i := 74) rfl)) (hw _ (List.mem_of_getElem? (i := 73) rfl)) (by decide) (by decide)) (g := (mkF m 91 #[.val (.int p0), .val (.int p1), .val (.int p2), .val (.int p3), .val (.int p4), .val (.int p5), .val (.ref b1), .val (.ref b17), .val (.int (3 : Int32)), .val (.ref b169), .unset, .unset, .unset] [(.int p2), (.int (0 : Int32)), (.ref b169)])) rfl (by rw [hml]; rfl) (argsL := [(.ref b169), (.int (0 : Int32)), (.int p2)]) (rest := []) (lenOf own_pd17 rfl) rfl (by show 2 * 0 + _ ≤ _; exact Nat.le_of_eq rfl) (hb hby at_91) (fun _ _ => ⟨rfl, e169, (by decide : 15 + 0 ≤ _), (by decide : 165 + 0 ≤ _)⟩)
      dsimp only [Pt.U, Pt.locs, Pt.cells, Pt.slots] at X170 lu170 yu170 zu170 st170 hQ170
      subst lu170 yu170 zu170
      obtain ⟨rfl, N170q, K170q, A170q⟩ := hQ170
      have N170 := Fr.app N18 N170q
      have A170r : Arv Z T170.heap b169 k169 .byte (3 : Int32) [(.int (nar .byte (p2.toInt8.toInt32))), (.int (0 : Int32)), (.int (0 : Int32))] (.int 0) := A170q
      have O170 := own_extK O169 K170q (allS ge_b169 all0)
      have KK170 : Keep h0 T170.heap [] := K169.trans K170q (allS (Or.inr sz_b169) all0)
      have R170 := R169.trans (CHr.keep K170q (allS Sf169 all0) R169.1)
      refine own_go (T170.setTop (mkF m 94 #[.val (.int p0), .val (.int p1), .val (.int p2), .val (.int p3), .val (.int p4), .val (.int p5), .val (.ref b1), .val (.ref b17), .val (.int (3 : Int32)), .val (.ref b169), .unset, .unset, .unset] [])) (fun t_ k_ => st170 _ k_) ?_
      refine own_go (T170.setTop (mkF m 96 #[.val (.int p0), .val (.int p1), .val (.int p2), .val (.int p3), .val (.int p4), .val (.int p5), .val (.ref b1), .val (.ref b17), .val (.int (3 : Int32)), .val (.ref b169), .unset, .unset, .unset] [(.ref b169)])) (fun t_ k_ => XS.aload X170.here hx rfl (hb hby at_94) rfl rfl k_) ?_
      refine own_go (T170.setTop (mkF m 97 #[.val (.int p0), .val (.int p1), .val (.int p2), .val (.int p3), .val (.int p4), .val (.int p5), .val (.ref b1), .val (.ref b17), .val (.int (3 : Int32)), .val (.ref b169), .unset, .unset, .unset] [(.int (1 : Int32)), (.ref b169)])) (fun t_ k_ => XS.iconst X170.here hx rfl (hb hby at_96) k_) ?_
      refine own_go (T170.setTop (mkF m 98 #[.val (.int p0), .val (.int p1), .val (.int p2), .val (.int p3), .val (.int p4), .val (.int p5), .val (.ref b1), .val (.ref b17), .val (.int (3 : Int32)), .val (.ref b169), .unset, .unset, .unset] [(.int p3), (.int (1 : Int32)), (.ref b169)])) (fun t_ k_ => XS.iloadN X170.here hx rfl (hb hby at_97) rfl k_) ?_
      obtain ⟨_, _, ⟨T171, Lu171, ku171, nu171⟩, -, X171, ⟨Lc171, hQ171, lu171, yu171, zu171⟩, st171⟩ := Jvm.LawKit.callS X170 hx (y := (⟨"com/example/trailcaster/trailcaster/model/ParticipantObjectQueryPinLaw", "set", "([BII)V"⟩ : MethodName)) hown (mvT hZ (hw _ (List.mem_of_getElem? (i := 71) rfl))) (mvT hZ (hw _ (List.mem_of_getElem? (i := 72) rfl))) (mvT hZ (hw _ (List.mem_of_getElem? (i := 73) rfl))) (mvT hZ (hw _ (List.mem_of_getElem? (i := 74) rfl))) (by decide) (backOf (W := 0) (rm_seti l Z a0 hw [] (b169) (k169) ((3 : Int32)) ([(.int (nar .byte (p2.toInt8.toInt32))), (.int (0 : Int32)), (.int (0 : Int32))]) ((1 : Int32)) (1) (p3) T170.heap O170 A170r (by decide) (by decide) rfl (Nat.le_of_ble_eq_true rfl) ge_b169) hZ (hw _ (List.mem_of_getElem? (i := 74) rfl)) (hw _ (List.mem_of_getElem? (i := 73) rfl)) (by decide) (by decide)) (g := (mkF m 98 #[.val (.int p0), .val (.int p1), .val (.int p2), .val (.int p3), .val (.int p4), .val (.int p5), .val (.ref b1), .val (.ref b17), .val (.int (3 : Int32)), .val (.ref b169), .unset, .unset, .unset] [(.int p3), (.int (1 : Int32)), (.ref b169)])) rfl (by rw [hml]; rfl) (argsL := [(.ref b169), (.int (1 : Int32)), (.int p3)]) (rest := []) (lenOf own_pd17 rfl) rfl (by show 2 * 0 + _ ≤ _; exact Nat.le_of_eq rfl) (hb hby at_98) (fun _ _ => ⟨rfl, rfl, (by decide : 15 + 0 ≤ _), (by decide : 165 + 0 ≤ _)⟩)
      dsimp only [Pt.U, Pt.locs, Pt.cells, Pt.slots] at X171 lu171 yu171 zu171 st171 hQ171
      subst lu171 yu171 zu171
      obtain ⟨rfl, N171q, K171q, A171q⟩ := hQ171
      have N171 := Fr.app N170 N171q
      have A171r : Arv Z T171.heap b169 k169 .byte (3 : Int32) [(.int (nar .byte (p2.toInt8.toInt32))), (.int (nar .byte (p3.toInt8.toInt32))), (.int (0 : Int32))] (.int 0) := A171q
      have O171 := own_extK O170 K171q (allS ge_b169 all0)
      have KK171 : Keep h0 T171.heap [] := KK170.trans K171q (allS (Or.inr sz_b169) all0)
      have Fz172 := (Safe.keep K170q (allS Sf169 all0) R169.1 Sf169)
      have R171 := R170.trans (CHr.keep K171q (allS Fz172 all0) R170.1)
      refine own_go (T171.setTop (mkF m 101 #[.val (.int p0), .val (.int p1), .val (.int p2), .val (.int p3), .val (.int p4), .val (.int p5), .val (.ref b1), .val (.ref b17), .val (.int (3 : Int32)), .val (.ref b169), .unset, .unset, .unset] [])) (fun t_ k_ => st171 _ k_) ?_
      refine own_go (T171.setTop (mkF m 103 #[.val (.int p0), .val (.int p1), .val (.int p2), .val (.int p3), .val (.int p4), .val (.int p5), .val (.ref b1), .val (.ref b17), .val (.int (3 : Int32)), .val (.ref b169), .unset, .unset, .unset] [(.ref b169)])) (fun t_ k_ => XS.aload X171.here hx rfl (hb hby at_101) rfl rfl k_) ?_
      refine own_go (T171.setTop (mkF m 104 #[.val (.int p0), .val (.int p1), .val (.int p2), .val (.int p3), .val (.int p4), .val (.int p5), .val (.ref b1), .val (.ref b17), .val (.int (3 : Int32)), .val (.ref b169), .unset, .unset, .unset] [(.int (2 : Int32)), (.ref b169)])) (fun t_ k_ => XS.iconst X171.here hx rfl (hb hby at_103) k_) ?_
      refine own_go (T171.setTop (mkF m 106 #[.val (.int p0), .val (.int p1), .val (.int p2), .val (.int p3), .val (.int p4), .val (.int p5), .val (.ref b1), .val (.ref b17), .val (.int (3 : Int32)), .val (.ref b169), .unset, .unset, .unset] [(.int p4), (.int (2 : Int32)), (.ref b169)])) (fun t_ k_ => XS.iload X171.here hx rfl (hb hby at_104) rfl k_) ?_
      obtain ⟨_, _, ⟨T173, Lu173, ku173, nu173⟩, -, X173, ⟨Lc173, hQ173, lu173, yu173, zu173⟩, st173⟩ := Jvm.LawKit.callS X171 hx (y := (⟨"com/example/trailcaster/trailcaster/model/ParticipantObjectQueryPinLaw", "set", "([BII)V"⟩ : MethodName)) hown (mvT hZ (hw _ (List.mem_of_getElem? (i := 71) rfl))) (mvT hZ (hw _ (List.mem_of_getElem? (i := 72) rfl))) (mvT hZ (hw _ (List.mem_of_getElem? (i := 73) rfl))) (mvT hZ (hw _ (List.mem_of_getElem? (i := 74) rfl))) (by decide) (backOf (W := 0) (rm_seti l Z a0 hw [] (b169) (k169) ((3 : Int32)) ([(.int (nar .byte (p2.toInt8.toInt32))), (.int (nar .byte (p3.toInt8.toInt32))), (.int (0 : Int32))]) ((2 : Int32)) (2) (p4) T171.heap O171 A171r (by decide) (by decide) rfl (Nat.le_of_ble_eq_true rfl) ge_b169) hZ (hw _ (List.mem_of_getElem? (i := 74) rfl)) (hw _ (List.mem_of_getElem? (i := 73) rfl)) (by decide) (by decide)) (g := (mkF m 106 #[.val (.int p0), .val (.int p1), .val (.int p2), .val (.int p3), .val (.int p4), .val (.int p5), .val (.ref b1), .val (.ref b17), .val (.int (3 : Int32)), .val (.ref b169), .unset, .unset, .unset] [(.int p4), (.int (2 : Int32)), (.ref b169)])) rfl (by rw [hml]; rfl) (argsL := [(.ref b169), (.int (2 : Int32)), (.int p4)]) (rest := []) (lenOf own_pd17 rfl) rfl (by show 2 * 0 + _ ≤ _; exact Nat.le_of_eq rfl) (hb hby at_106) (fun _ _ => ⟨rfl, rfl, (by decide : 15 + 0 ≤ _), (by decide : 165 + 0 ≤ _)⟩)
      dsimp only [Pt.U, Pt.locs, Pt.cells, Pt.slots] at X173 lu173 yu173 zu173 st173 hQ173
      subst lu173 yu173 zu173
      obtain ⟨rfl, N173q, K173q, A173q⟩ := hQ173
      have N173 := Fr.app N171 N173q
      have A173r : Arv Z T173.heap b169 k169 .byte (3 : Int32) [(.int (nar .byte (p2.toInt8.toInt32))), (.int (nar .byte (p3.toInt8.toInt32))), (.int (nar .byte (p4.toInt8.toInt32)))] (.int 0) := A173q
      have O173 := own_extK O171 K173q (allS ge_b169 all0)
      have KK173 : Keep h0 T173.heap [] := KK171.trans K173q (allS (Or.inr sz_b169) all0)
      have Fz174 := (Safe.keep K171q (allS Fz172 all0) R170.1 Fz172)
      have R173 := R171.trans (CHr.keep K173q (allS Fz174 all0) R171.1)
      refine own_go (T173.setTop (mkF m 109 #[.val (.int p0), .val (.int p1), .val (.int p2), .val (.int p3), .val (.int p4), .val (.int p5), .val (.ref b1), .val (.ref b17), .val (.int (3 : Int32)), .val (.ref b169), .unset, .unset, .unset] [])) (fun t_ k_ => st173 _ k_) ?_
      refine own_go (T173.setTop (mkF m 111 #[.val (.int p0), .val (.int p1), .val (.int p2), .val (.int p3), .val (.int p4), .val (.int p5), .val (.ref b1), .val (.ref b17), .val (.int (3 : Int32)), .val (.ref b169), .unset, .unset, .unset] [(.ref b169)])) (fun t_ k_ => XS.aload X173.here hx rfl (hb hby at_109) rfl rfl k_) ?_
      refine own_go (T173.setTop (mkF m 112 #[.val (.int p0), .val (.int p1), .val (.int p2), .val (.int p3), .val (.int p4), .val (.int p5), .val (.ref b1), .val (.ref b17), .val (.int (3 : Int32)), .val (.ref b169), .unset, .unset, .unset] [(.int (3 : Int32)), (.ref b169)])) (fun t_ k_ => XS.iconst X173.here hx rfl (hb hby at_111) k_) ?_
      refine own_go (T173.setTop (mkF m 114 #[.val (.int p0), .val (.int p1), .val (.int p2), .val (.int p3), .val (.int p4), .val (.int p5), .val (.ref b1), .val (.ref b17), .val (.int (3 : Int32)), .val (.ref b169), .unset, .unset, .unset] [(.int p5), (.int (3 : Int32)), (.ref b169)])) (fun t_ k_ => XS.iload X173.here hx rfl (hb hby at_112) rfl k_) ?_
      obtain ⟨_, _, ⟨T175, Lu175, ku175, nu175⟩, -, X175, ⟨Lc175, hQ175, lu175, yu175, zu175⟩, st175⟩ := Jvm.LawKit.callS X173 hx (y := (⟨"com/example/trailcaster/trailcaster/model/ParticipantObjectQueryPinLaw", "set", "([BII)V"⟩ : MethodName)) hown (mvT hZ (hw _ (List.mem_of_getElem? (i := 71) rfl))) (mvT hZ (hw _ (List.mem_of_getElem? (i := 72) rfl))) (mvT hZ (hw _ (List.mem_of_getElem? (i := 73) rfl))) (mvT hZ (hw _ (List.mem_of_getElem? (i := 74) rfl))) (by decide) (backOf (W := 0) (rm_seto l Z a0 hw [] (b169) (k169) ((3 : Int32)) ([(.int (nar .byte (p2.toInt8.toInt32))), (.int (nar .byte (p3.toInt8.toInt32))), (.int (nar .byte (p4.toInt8.toInt32)))]) ((3 : Int32)) (p5) T173.heap O173 A173r (by decide)) hZ (hw _ (List.mem_of_getElem? (i := 74) rfl)) (hw _ (List.mem_of_getElem? (i := 73) rfl)) (by decide) (by decide)) (g := (mkF m 114 #[.val (.int p0), .val (.int p1), .val (.int p2), .val (.int p3), .val (.int p4), .val (.int p5), .val (.ref b1), .val (.ref b17), .val (.int (3 : Int32)), .val (.ref b169), .unset, .unset, .unset] [(.int p5), (.int (3 : Int32)), (.ref b169)])) rfl (by rw [hml]; rfl) (argsL := [(.ref b169), (.int (3 : Int32)), (.int p5)]) (rest := []) (lenOf own_pd17 rfl) rfl (by show 2 * 0 + _ ≤ _; exact Nat.le_of_eq rfl) (hb hby at_114) (fun _ _ => ⟨rfl, rfl, (by decide : 15 + 0 ≤ _), (by decide : 165 + 0 ≤ _)⟩)
      dsimp only [Pt.U, Pt.locs, Pt.cells, Pt.slots] at X175 lu175 yu175 zu175 st175 hQ175
      subst lu175 yu175 zu175
      obtain ⟨rfl, N175q, e175⟩ := hQ175
      have N175 := Fr.app N173 N175q
      refine own_go (T175.setTop (mkF m 117 #[.val (.int p0), .val (.int p1), .val (.int p2), .val (.int p3), .val (.int p4), .val (.int p5), .val (.ref b1), .val (.ref b17), .val (.int (3 : Int32)), .val (.ref b169), .unset, .unset, .unset] [])) (fun t_ k_ => st175 _ k_) ?_
      obtain ⟨T176, h176, X176, e176, E176, A176, D176, U176, st176⟩ := newO X175 hx hZ hown (hw _ (List.mem_of_getElem? (i := 75) rfl)) (hw _ (List.mem_of_getElem? (i := 76) rfl)) (hw _ (List.mem_of_getElem? (i := 77) rfl)) e175 (g := (mkF m 117 #[.val (.int p0), .val (.int p1), .val (.int p2), .val (.int p3), .val (.int p4), .val (.int p5), .val (.ref b1), .val (.ref b17), .val (.int (3 : Int32)), .val (.ref b169), .unset, .unset, .unset] [])) rfl (hb hby at_117) (by decide) (by decide)
      obtain ⟨b176, g176⟩ : ∃ z, z = T173.heap.size := ⟨_, rfl⟩
      rw [← g176] at A176 D176 U176 st176
      have ge_b176 : Z.heap.size ≤ b176 := Nat.le_trans O173.1 (Nat.le_of_eq g176.symm)
      have sz_b176 : h0.size ≤ b176 := Nat.le_trans KK173.1 (Nat.le_of_eq g176.symm)
      have R176 := R173.trans (CHr.ext E176 R173.1)
      have Sf176 := Safe.ext (x := b176) E176 R173.1 (Safe.new (Nat.le_of_eq g176.symm))
      have K176 : Keep h0 h176 [] := KK173.ext E176
      have O176 := own_ext O173 E176
      have Fid_176 : Fld Z h176 b176 "com/example/trailcaster/trailcaster/model/ParticipantObject" "id" "Ljava/lang/String;" .null := D176 (Or.inr (hw _ (List.mem_of_getElem? (i := 201) rfl))) (ty := (.object "java/lang/String")) (by decide)
      have FtypeCode_176 : Fld Z h176 b176 "com/example/trailcaster/trailcaster/model/ParticipantObject" "typeCode" "Ljava/lang/String;" .null := D176 (Or.inr (hw _ (List.mem_of_getElem? (i := 203) rfl))) (ty := (.object "java/lang/String")) (by decide)
      have FtypeCodeRole_176 : Fld Z h176 b176 "com/example/trailcaster/trailcaster/model/ParticipantObject" "typeCodeRole" "Ljava/lang/String;" .null := D176 (Or.inr (hw _ (List.mem_of_getElem? (i := 205) rfl))) (ty := (.object "java/lang/String")) (by decide)
      have FidTypeCode_176 : Fld Z h176 b176 "com/example/trailcaster/trailcaster/model/ParticipantObject" "idTypeCode" "Lcom/example/trailcaster/trailcaster/model/CodedValue;" .null := D176 (Or.inr (hw _ (List.mem_of_getElem? (i := 207) rfl))) (ty := (.object "com/example/trailcaster/trailcaster/model/CodedValue")) (by decide)
      have Fname_176 : Fld Z h176 b176 "com/example/trailcaster/trailcaster/model/ParticipantObject" "name" "Ljava/lang/String;" .null := D176 (Or.inr (hw _ (List.mem_of_getElem? (i := 209) rfl))) (ty := (.object "java/lang/String")) (by decide)
      have Fquery_176 : Fld Z h176 b176 "com/example/trailcaster/trailcaster/model/ParticipantObject" "query" "[B" .null := D176 (Or.inr (hw _ (List.mem_of_getElem? (i := 211) rfl))) (ty := (.array .byte)) (by decide)
      have Fdetails_176 : Fld Z h176 b176 "com/example/trailcaster/trailcaster/model/ParticipantObject" "details" "Ljava/util/List;" .null := D176 (Or.inr (hw _ (List.mem_of_getElem? (i := 213) rfl))) (ty := (.object "java/util/List")) (by decide)
      have Fdescription_176 : Fld Z h176 b176 "com/example/trailcaster/trailcaster/model/ParticipantObject" "description" "Lcom/example/trailcaster/trailcaster/model/DicomObjectDescription;" .null := D176 (Or.inr (hw _ (List.mem_of_getElem? (i := 215) rfl))) (ty := (.object "com/example/trailcaster/trailcaster/model/DicomObjectDescription")) (by decide)
      refine own_go (T176.setTop (mkF m 120 #[.val (.int p0), .val (.int p1), .val (.int p2), .val (.int p3), .val (.int p4), .val (.int p5), .val (.ref b1), .val (.ref b17), .val (.int (3 : Int32)), .val (.ref b169), .unset, .unset, .unset] [(.ref b176)])) (fun t_ k_ => st176 _ k_) ?_
      refine own_go (T176.setTop (mkF m 121 #[.val (.int p0), .val (.int p1), .val (.int p2), .val (.int p3), .val (.int p4), .val (.int p5), .val (.ref b1), .val (.ref b17), .val (.int (3 : Int32)), .val (.ref b169), .unset, .unset, .unset] [(.ref b176), (.ref b176)])) (fun t_ k_ => XS.dup X176.here hx rfl (hb hby at_120) rfl rfl k_) ?_
      obtain ⟨a177, T177, h177, k177, t177, kb177, X177, e177, E177, hS, hk, hZ, hown, A177, C177, V177, B177, lt177, ltb177, CC177, Li177, ne177, st177⟩ := ldcCH (EL := consts_1) X176 hx hZ hown (hw _ (List.mem_of_getElem? (i := 78) rfl)) (fun d hd => hw d (own_sA d hd)) e176 hS (Nat.le_trans (Nat.le_trans (Nat.le_trans (Nat.le_trans (Nat.le_trans (Nat.le_trans (Nat.le_trans (Nat.le_refl _) E17.1) K18q.1) E169.1) K170q.1) K171q.1) K173q.1) E176.1) hEW (List.mem_of_getElem? (i := 11) rfl) R176.1 (vs := (([105] : List Int32).map (fun c => c.toInt8.toInt32)).map Value.int) (z := 1) (by exact ⟨by decide, by rfl⟩) (by decide) (by rfl) (g := (mkF m 121 #[.val (.int p0), .val (.int p1), .val (.int p2), .val (.int p3), .val (.int p4), .val (.int p5), .val (.ref b1), .val (.ref b17), .val (.int (3 : Int32)), .val (.ref b169), .unset, .unset, .unset] [(.ref b176), (.ref b176)])) rfl (hb hby at_121) (n := 4) (by decide) (by decide) (by decide) (by decide)
      have K177 : Keep h0 h177 [] := K176.ext E177
      have O177 := own_ext O176 E177
      have R177 := R176.trans CC177
      refine own_go (T177.setTop (mkF m 123 #[.val (.int p0), .val (.int p1), .val (.int p2), .val (.int p3), .val (.int p4), .val (.int p5), .val (.ref b1), .val (.ref b17), .val (.int (3 : Int32)), .val (.ref b169), .unset, .unset, .unset] [(.ref a177), (.ref b176), (.ref b176)])) (fun t_ k_ => st177 _ k_) ?_
      obtain ⟨a178, T178, h178, k178, t178, kb178, X178, e178, E178, hS, hk, hZ, hown, A178, C178, V178, B178, lt178, ltb178, CC178, Li178, ne178, st178⟩ := ldcCH (EL := consts_1) X177 hx hZ hown (hw _ (List.mem_of_getElem? (i := 79) rfl)) (fun d hd => hw d (own_sA d hd)) e177 hS hk hEW (List.mem_of_getElem? (i := 12) rfl) R177.1 (vs := (([116] : List Int32).map (fun c => c.toInt8.toInt32)).map Value.int) (z := 1) (by exact ⟨by decide, by rfl⟩) (by decide) (by rfl) (g := (mkF m 123 #[.val (.int p0), .val (.int p1), .val (.int p2), .val (.int p3), .val (.int p4), .val (.int p5), .val (.ref b1), .val (.ref b17), .val (.int (3 : Int32)), .val (.ref b169), .unset, .unset, .unset] [(.ref a177), (.ref b176), (.ref b176)])) rfl (hb hby at_123) (n := 4) (by decide) (by decide) (by decide) (by decide)
      have K178 : Keep h0 h178 [] := K177.ext E178
      have O178 := own_ext O177 E178
      have R178 := R177.trans CC178
      refine own_go (T178.setTop (mkF m 125 #[.val (.int p0), .val (.int p1), .val (.int p2), .val (.int p3), .val (.int p4), .val (.int p5), .val (.ref b1), .val (.ref b17), .val (.int (3 : Int32)), .val (.ref b169), .unset, .unset, .unset] [(.ref a178), (.ref a177), (.ref b176), (.ref b176)])) (fun t_ k_ => st178 _ k_) ?_
      refine own_go (T178.setTop (mkF m 126 #[.val (.int p0), .val (.int p1), .val (.int p2), .val (.int p3), .val (.int p4), .val (.int p5), .val (.ref b1), .val (.ref b17), .val (.int (3 : Int32)), .val (.ref b169), .unset, .unset, .unset] [.null, (.ref a178), (.ref a177), (.ref b176), (.ref b176)])) (fun t_ k_ => XS.aconstNull X178.here hx rfl (hb hby at_125) k_) ?_
      refine own_go (T178.setTop (mkF m 128 #[.val (.int p0), .val (.int p1), .val (.int p2), .val (.int p3), .val (.int p4), .val (.int p5), .val (.ref b1), .val (.ref b17), .val (.int (3 : Int32)), .val (.ref b169), .unset, .unset, .unset] [(.ref b1), .null, (.ref a178), (.ref a177), (.ref b176), (.ref b176)])) (fun t_ k_ => XS.aload X178.here hx rfl (hb hby at_126) rfl rfl k_) ?_
      refine own_go (T178.setTop (mkF m 129 #[.val (.int p0), .val (.int p1), .val (.int p2), .val (.int p3), .val (.int p4), .val (.int p5), .val (.ref b1), .val (.ref b17), .val (.int (3 : Int32)), .val (.ref b169), .unset, .unset, .unset] [.null, (.ref b1), .null, (.ref a178), (.ref a177), (.ref b176), (.ref b176)])) (fun t_ k_ => XS.aconstNull X178.here hx rfl (hb hby at_128) k_) ?_
      refine own_go (T178.setTop (mkF m 131 #[.val (.int p0), .val (.int p1), .val (.int p2), .val (.int p3), .val (.int p4), .val (.int p5), .val (.ref b1), .val (.ref b17), .val (.int (3 : Int32)), .val (.ref b169), .unset, .unset, .unset] [(.ref b169), .null, (.ref b1), .null, (.ref a178), (.ref a177), (.ref b176), (.ref b176)])) (fun t_ k_ => XS.aload X178.here hx rfl (hb hby at_129) rfl rfl k_) ?_
      refine own_go (T178.setTop (mkF m 133 #[.val (.int p0), .val (.int p1), .val (.int p2), .val (.int p3), .val (.int p4), .val (.int p5), .val (.ref b1), .val (.ref b17), .val (.int (3 : Int32)), .val (.ref b169), .unset, .unset, .unset] [(.ref b17), (.ref b169), .null, (.ref b1), .null, (.ref a178), (.ref a177), (.ref b176), (.ref b176)])) (fun t_ k_ => XS.aload X178.here hx rfl (hb hby at_131) rfl rfl k_) ?_
      refine own_go (T178.setTop (mkF m 134 #[.val (.int p0), .val (.int p1), .val (.int p2), .val (.int p3), .val (.int p4), .val (.int p5), .val (.ref b1), .val (.ref b17), .val (.int (3 : Int32)), .val (.ref b169), .unset, .unset, .unset] [.null, (.ref b17), (.ref b169), .null, (.ref b1), .null, (.ref a178), (.ref a177), (.ref b176), (.ref b176)])) (fun t_ k_ => XS.aconstNull X178.here hx rfl (hb hby at_133) k_) ?_
      have Fz179 := ((A176.ext E177).ext E178)
      have Fz180 := ((Fid_176.ext E177).ext E178)
      have Fz181 := ((FtypeCode_176.ext E177).ext E178)
      have Fz182 := ((FtypeCodeRole_176.ext E177).ext E178)
      have Fz183 := ((FidTypeCode_176.ext E177).ext E178)
      have Fz184 := ((Fname_176.ext E177).ext E178)
      have Fz185 := ((Fquery_176.ext E177).ext E178)
      have Fz186 := ((Fdetails_176.ext E177).ext E178)
      have Fz187 := ((Fdescription_176.ext E177).ext E178)
      have Fz188 := (((((((X18q.ext E169).keep K170q).keep K171q).keep K173q).ext E176).ext E177).ext E178)
      have Nz189 : b17 ≠ b169 := (Nat.ne_of_lt (Nat.lt_of_lt_of_le X18q.lt (Nat.le_of_eq g169.symm)))
      have Fz190 := (((((((M18q.ext E169).keep K170q (ninS Nz189 nin0)).keep K171q (ninS Nz189 nin0)).keep K173q (ninS Nz189 nin0)).ext E176).ext E177).ext E178)
      have Fz191 := (((((((S18q.ext E169).keep K170q (ninS Nz189 nin0)).keep K171q (ninS Nz189 nin0)).keep K173q (ninS Nz189 nin0)).ext E176).ext E177).ext E178)
      have Fz192 := ((((((Xa169.keep K170q).keep K171q).keep K173q).ext E176).ext E177).ext E178)
      have Fz193 := (((A173r.ext E176).ext E177).ext E178)
      obtain ⟨_, _, ⟨T194, Lu194, ku194, nu194⟩, -, X194, hS194, hg194, ⟨Lc194, hQ194, lu194, yu194, zu194, C194⟩, st194⟩ := X178.specialBackS hx (y := (⟨"com/example/trailcaster/trailcaster/model/ParticipantObject", "<init>", "(Ljava/lang/String;Ljava/lang/String;Ljava/lang/String;Lcom/example/trailcaster/trailcaster/model/CodedValue;Ljava/lang/String;[BLjava/util/List;Lcom/example/trailcaster/trailcaster/model/DicomObjectDescription;)V"⟩ : MethodName)) rfl hown (mvT hZ (hw _ (List.mem_of_getElem? (i := 80) rfl))) (mvT hZ (hw _ (List.mem_of_getElem? (i := 81) rfl))) (mvT hZ (hw _ (List.mem_of_getElem? (i := 82) rfl))) (by decide) (backOfSH (W := 1) (rm_poB l Z a0 hw [] (b176) (a177) (b1) (b17) (a178) (t178) (kb178) (_) (b169) (k169) ((3 : Int32)) ([(.int (nar .byte (p2.toInt8.toInt32))), (.int (nar .byte (p3.toInt8.toInt32))), (.int (nar .byte (p4.toInt8.toInt32)))]) (cs0) (a_EM) (a_DF) (m_A) (m_L) (m_R) h178 O178 w Fz179 Fz180 Fz181 Fz182 Fz183 Fz184 Fz185 Fz186 Fz187 ge_b176 Fz188 Fz190 Fz191 A178 V178 B178 Fz192 Fz193 (by decide)) hZ (hw _ (List.mem_of_getElem? (i := 82) rfl)) (hw _ (List.mem_of_getElem? (i := 77) rfl)) (by decide) (by decide) hEW R178.1) (g := (mkF m 134 #[.val (.int p0), .val (.int p1), .val (.int p2), .val (.int p3), .val (.int p4), .val (.int p5), .val (.ref b1), .val (.ref b17), .val (.int (3 : Int32)), .val (.ref b169), .unset, .unset, .unset] [.null, (.ref b17), (.ref b169), .null, (.ref b1), .null, (.ref a178), (.ref a177), (.ref b176), (.ref b176)])) rfl (by rw [hml]; rfl) (Steps.refl _) (a := b176) (argsL := [(.ref a177), (.ref a178), .null, (.ref b1), .null, (.ref b169), (.ref b17), .null]) (rest := [(.ref b176)]) (lenOf own_pd18 rfl) rfl (by show 2 * 0 + _ ≤ _; exact Nat.le_of_eq rfl) (hb hby at_134) (fun _ _ => ⟨rfl, e178, (by decide : 20 + 14 ≤ _), (by decide : 189 + 189 ≤ _)⟩)
      dsimp only [Pt.U, Pt.locs, Pt.cells, Pt.slots] at X194 lu194 yu194 zu194 st194 hQ194 hS194 hg194 C194
      subst lu194 yu194 zu194
      obtain ⟨X194, hS, hZ, hown⟩ := rebS hS (by rw [show T178.heap = h178 from e178]; exact hk) X194 hS194 hg194 hZ hown
      have R194 := R178.trans C194
      obtain ⟨r194, rfl, N194q, K194q, u2_194, X194q, F194q, Y194q, A194q⟩ := hQ194
      have N194 := Fr.app N175 N194q
      have O194 := own_extK O178 K194q (allS ge_b176 all0)
      have KK194 : Keep h0 T194.heap [] := K178.trans K194q (allS (Or.inr sz_b176) all0)
      have Fz195 := (CC178.safe (A176.ext E177).lt (CC177.safe A176.lt Sf176))
      refine own_go (T194.setTop (mkF m 137 #[.val (.int p0), .val (.int p1), .val (.int p2), .val (.int p3), .val (.int p4), .val (.int p5), .val (.ref b1), .val (.ref b17), .val (.int (3 : Int32)), .val (.ref b169), .unset, .unset, .unset] [(.ref b176)])) (fun t_ k_ => st194.trans k_) ?_
      refine own_go (T194.setTop (mkF m 139 #[.val (.int p0), .val (.int p1), .val (.int p2), .val (.int p3), .val (.int p4), .val (.int p5), .val (.ref b1), .val (.ref b17), .val (.int (3 : Int32)), .val (.ref b169), .val (.ref b176), .unset, .unset] [])) (fun t_ k_ => XS.astore X194.here hx rfl (hb hby at_137) rfl rfl (l' := #[.val (.int p0), .val (.int p1), .val (.int p2), .val (.int p3), .val (.int p4), .val (.int p5), .val (.ref b1), .val (.ref b17), .val (.int (3 : Int32)), .val (.ref b169), .val (.ref b176), .unset, .unset]) rfl k_) ?_
      refine own_go (T194.setTop (mkF m 141 #[.val (.int p0), .val (.int p1), .val (.int p2), .val (.int p3), .val (.int p4), .val (.int p5), .val (.ref b1), .val (.ref b17), .val (.int (3 : Int32)), .val (.ref b169), .val (.ref b176), .unset, .unset] [(.ref b169)])) (fun t_ k_ => XS.aload X194.here hx rfl (hb hby at_139) rfl rfl k_) ?_
      refine own_go (T194.setTop (mkF m 142 #[.val (.int p0), .val (.int p1), .val (.int p2), .val (.int p3), .val (.int p4), .val (.int p5), .val (.ref b1), .val (.ref b17), .val (.int (3 : Int32)), .val (.ref b169), .val (.ref b176), .unset, .unset] [(.int (0 : Int32)), (.ref b169)])) (fun t_ k_ => XS.iconst X194.here hx rfl (hb hby at_141) k_) ?_
      have Nz196 : b169 ≠ b176 := (Nat.ne_of_lt (Nat.lt_of_lt_of_le (((Xa169.keep K170q).keep K171q).keep K173q).lt (Nat.le_of_eq g176.symm)))
      have Fz197 := (Fz193.keep K194q (ninS Nz196 nin0))
      obtain ⟨_, _, ⟨T198, Lu198, ku198, nu198⟩, -, X198, ⟨Lc198, hQ198, lu198, yu198, zu198⟩, st198⟩ := Jvm.LawKit.callS X194 hx (y := (⟨"com/example/trailcaster/trailcaster/model/ParticipantObjectQueryPinLaw", "flip", "([BI)V"⟩ : MethodName)) hown (mvT hZ (hw _ (List.mem_of_getElem? (i := 216) rfl))) (mvT hZ (hw _ (List.mem_of_getElem? (i := 217) rfl))) (mvT hZ (hw _ (List.mem_of_getElem? (i := 73) rfl))) (mvT hZ (hw _ (List.mem_of_getElem? (i := 218) rfl))) (by decide) (backOf (W := 0) (rm_flipi l Z a0 hw [] (b169) (k169) ((3 : Int32)) ([(.int (nar .byte (p2.toInt8.toInt32))), (.int (nar .byte (p3.toInt8.toInt32))), (.int (nar .byte (p4.toInt8.toInt32)))]) ((0 : Int32)) (0) ((nar .byte (p2.toInt8.toInt32))) T194.heap O194 Fz197 (by decide) (by decide) rfl (Nat.le_of_ble_eq_true rfl) ge_b169 rfl) hZ (hw _ (List.mem_of_getElem? (i := 218) rfl)) (hw _ (List.mem_of_getElem? (i := 73) rfl)) (by decide) (by decide)) (g := (mkF m 142 #[.val (.int p0), .val (.int p1), .val (.int p2), .val (.int p3), .val (.int p4), .val (.int p5), .val (.ref b1), .val (.ref b17), .val (.int (3 : Int32)), .val (.ref b169), .val (.ref b176), .unset, .unset] [(.int (0 : Int32)), (.ref b169)])) rfl (by rw [hml]; rfl) (argsL := [(.ref b169), (.int (0 : Int32))]) (rest := []) (lenOf own_pd19 rfl) rfl (by show 2 * 0 + _ ≤ _; exact Nat.le_of_eq rfl) (hb hby at_142) (fun _ _ => ⟨rfl, rfl, (by decide : 34 + 0 ≤ _), (by decide : 378 + 0 ≤ _)⟩)
      dsimp only [Pt.U, Pt.locs, Pt.cells, Pt.slots] at X198 lu198 yu198 zu198 st198 hQ198
      subst lu198 yu198 zu198
      obtain ⟨rfl, N198q, K198q, A198q⟩ := hQ198
      have N198 := Fr.app N194 N198q
      have A198r : Arv Z T198.heap b169 k169 .byte (3 : Int32) [(.int (nar .byte ((((nar .byte (p2.toInt8.toInt32)) ^^^ (-1 : Int32)).toInt8.toInt32)))), (.int (nar .byte (p3.toInt8.toInt32))), (.int (nar .byte (p4.toInt8.toInt32)))] (.int 0) := A198q
      have O198 := own_extK O194 K198q (allS ge_b169 all0)
      have KK198 : Keep h0 T198.heap [] := KK194.trans K198q (allS (Or.inr sz_b169) all0)
      have Fz199 := (C194.safe Fz192.lt (CC178.safe (((((Xa169.keep K170q).keep K171q).keep K173q).ext E176).ext E177).lt (CC177.safe ((((Xa169.keep K170q).keep K171q).keep K173q).ext E176).lt (Safe.ext E176 R173.1 (Safe.keep K173q (allS Fz174 all0) R171.1 Fz174)))))
      have R198 := R194.trans (CHr.keep K198q (allS Fz199 all0) R194.1)
      refine own_go (T198.setTop (mkF m 145 #[.val (.int p0), .val (.int p1), .val (.int p2), .val (.int p3), .val (.int p4), .val (.int p5), .val (.ref b1), .val (.ref b17), .val (.int (3 : Int32)), .val (.ref b169), .val (.ref b176), .unset, .unset] [])) (fun t_ k_ => st198 _ k_) ?_
      refine own_go (T198.setTop (mkF m 147 #[.val (.int p0), .val (.int p1), .val (.int p2), .val (.int p3), .val (.int p4), .val (.int p5), .val (.ref b1), .val (.ref b17), .val (.int (3 : Int32)), .val (.ref b169), .val (.ref b176), .unset, .unset] [(.ref b169)])) (fun t_ k_ => XS.aload X198.here hx rfl (hb hby at_145) rfl rfl k_) ?_
      refine own_go (T198.setTop (mkF m 148 #[.val (.int p0), .val (.int p1), .val (.int p2), .val (.int p3), .val (.int p4), .val (.int p5), .val (.ref b1), .val (.ref b17), .val (.int (3 : Int32)), .val (.ref b169), .val (.ref b176), .unset, .unset] [(.int (1 : Int32)), (.ref b169)])) (fun t_ k_ => XS.iconst X198.here hx rfl (hb hby at_147) k_) ?_
      obtain ⟨_, _, ⟨T200, Lu200, ku200, nu200⟩, -, X200, ⟨Lc200, hQ200, lu200, yu200, zu200⟩, st200⟩ := Jvm.LawKit.callS X198 hx (y := (⟨"com/example/trailcaster/trailcaster/model/ParticipantObjectQueryPinLaw", "flip", "([BI)V"⟩ : MethodName)) hown (mvT hZ (hw _ (List.mem_of_getElem? (i := 216) rfl))) (mvT hZ (hw _ (List.mem_of_getElem? (i := 217) rfl))) (mvT hZ (hw _ (List.mem_of_getElem? (i := 73) rfl))) (mvT hZ (hw _ (List.mem_of_getElem? (i := 218) rfl))) (by decide) (backOf (W := 0) (rm_flipi l Z a0 hw [] (b169) (k169) ((3 : Int32)) ([(.int (nar .byte ((((nar .byte (p2.toInt8.toInt32)) ^^^ (-1 : Int32)).toInt8.toInt32)))), (.int (nar .byte (p3.toInt8.toInt32))), (.int (nar .byte (p4.toInt8.toInt32)))]) ((1 : Int32)) (1) ((nar .byte (p3.toInt8.toInt32))) T198.heap O198 A198r (by decide) (by decide) rfl (Nat.le_of_ble_eq_true rfl) ge_b169 rfl) hZ (hw _ (List.mem_of_getElem? (i := 218) rfl)) (hw _ (List.mem_of_getElem? (i := 73) rfl)) (by decide) (by decide)) (g := (mkF m 148 #[.val (.int p0), .val (.int p1), .val (.int p2), .val (.int p3), .val (.int p4), .val (.int p5), .val (.ref b1), .val (.ref b17), .val (.int (3 : Int32)), .val (.ref b169), .val (.ref b176), .unset, .unset] [(.int (1 : Int32)), (.ref b169)])) rfl (by rw [hml]; rfl) (argsL := [(.ref b169), (.int (1 : Int32))]) (rest := []) (lenOf own_pd19 rfl) rfl (by show 2 * 0 + _ ≤ _; exact Nat.le_of_eq rfl) (hb hby at_148) (fun _ _ => ⟨rfl, rfl, (by decide : 34 + 0 ≤ _), (by decide : 378 + 0 ≤ _)⟩)
      dsimp only [Pt.U, Pt.locs, Pt.cells, Pt.slots] at X200 lu200 yu200 zu200 st200 hQ200
      subst lu200 yu200 zu200
      obtain ⟨rfl, N200q, K200q, A200q⟩ := hQ200
      have N200 := Fr.app N198 N200q
      have A200r : Arv Z T200.heap b169 k169 .byte (3 : Int32) [(.int (nar .byte ((((nar .byte (p2.toInt8.toInt32)) ^^^ (-1 : Int32)).toInt8.toInt32)))), (.int (nar .byte ((((nar .byte (p3.toInt8.toInt32)) ^^^ (-1 : Int32)).toInt8.toInt32)))), (.int (nar .byte (p4.toInt8.toInt32)))] (.int 0) := A200q
      have O200 := own_extK O198 K200q (allS ge_b169 all0)
      have KK200 : Keep h0 T200.heap [] := KK198.trans K200q (allS (Or.inr sz_b169) all0)
      have Fz201 := (Safe.keep K198q (allS Fz199 all0) R194.1 Fz199)
      have R200 := R198.trans (CHr.keep K200q (allS Fz201 all0) R198.1)
      refine own_go (T200.setTop (mkF m 151 #[.val (.int p0), .val (.int p1), .val (.int p2), .val (.int p3), .val (.int p4), .val (.int p5), .val (.ref b1), .val (.ref b17), .val (.int (3 : Int32)), .val (.ref b169), .val (.ref b176), .unset, .unset] [])) (fun t_ k_ => st200 _ k_) ?_
      refine own_go (T200.setTop (mkF m 153 #[.val (.int p0), .val (.int p1), .val (.int p2), .val (.int p3), .val (.int p4), .val (.int p5), .val (.ref b1), .val (.ref b17), .val (.int (3 : Int32)), .val (.ref b169), .val (.ref b176), .unset, .unset] [(.ref b169)])) (fun t_ k_ => XS.aload X200.here hx rfl (hb hby at_151) rfl rfl k_) ?_
      refine own_go (T200.setTop (mkF m 154 #[.val (.int p0), .val (.int p1), .val (.int p2), .val (.int p3), .val (.int p4), .val (.int p5), .val (.ref b1), .val (.ref b17), .val (.int (3 : Int32)), .val (.ref b169), .val (.ref b176), .unset, .unset] [(.int (2 : Int32)), (.ref b169)])) (fun t_ k_ => XS.iconst X200.here hx rfl (hb hby at_153) k_) ?_
      obtain ⟨_, _, ⟨T202, Lu202, ku202, nu202⟩, -, X202, ⟨Lc202, hQ202, lu202, yu202, zu202⟩, st202⟩ := Jvm.LawKit.callS X200 hx (y := (⟨"com/example/trailcaster/trailcaster/model/ParticipantObjectQueryPinLaw", "flip", "([BI)V"⟩ : MethodName)) hown (mvT hZ (hw _ (List.mem_of_getElem? (i := 216) rfl))) (mvT hZ (hw _ (List.mem_of_getElem? (i := 217) rfl))) (mvT hZ (hw _ (List.mem_of_getElem? (i := 73) rfl))) (mvT hZ (hw _ (List.mem_of_getElem? (i := 218) rfl))) (by decide) (backOf (W := 0) (rm_flipi l Z a0 hw [] (b169) (k169) ((3 : Int32)) ([(.int (nar .byte ((((nar .byte (p2.toInt8.toInt32)) ^^^ (-1 : Int32)).toInt8.toInt32)))), (.int (nar .byte ((((nar .byte (p3.toInt8.toInt32)) ^^^ (-1 : Int32)).toInt8.toInt32)))), (.int (nar .byte (p4.toInt8.toInt32)))]) ((2 : Int32)) (2) ((nar .byte (p4.toInt8.toInt32))) T200.heap O200 A200r (by decide) (by decide) rfl (Nat.le_of_ble_eq_true rfl) ge_b169 rfl) hZ (hw _ (List.mem_of_getElem? (i := 218) rfl)) (hw _ (List.mem_of_getElem? (i := 73) rfl)) (by decide) (by decide)) (g := (mkF m 154 #[.val (.int p0), .val (.int p1), .val (.int p2), .val (.int p3), .val (.int p4), .val (.int p5), .val (.ref b1), .val (.ref b17), .val (.int (3 : Int32)), .val (.ref b169), .val (.ref b176), .unset, .unset] [(.int (2 : Int32)), (.ref b169)])) rfl (by rw [hml]; rfl) (argsL := [(.ref b169), (.int (2 : Int32))]) (rest := []) (lenOf own_pd19 rfl) rfl (by show 2 * 0 + _ ≤ _; exact Nat.le_of_eq rfl) (hb hby at_154) (fun _ _ => ⟨rfl, rfl, (by decide : 34 + 0 ≤ _), (by decide : 378 + 0 ≤ _)⟩)
      dsimp only [Pt.U, Pt.locs, Pt.cells, Pt.slots] at X202 lu202 yu202 zu202 st202 hQ202
      subst lu202 yu202 zu202
      obtain ⟨rfl, N202q, K202q, A202q⟩ := hQ202
      have N202 := Fr.app N200 N202q
      have A202r : Arv Z T202.heap b169 k169 .byte (3 : Int32) [(.int (nar .byte ((((nar .byte (p2.toInt8.toInt32)) ^^^ (-1 : Int32)).toInt8.toInt32)))), (.int (nar .byte ((((nar .byte (p3.toInt8.toInt32)) ^^^ (-1 : Int32)).toInt8.toInt32)))), (.int (nar .byte ((((nar .byte (p4.toInt8.toInt32)) ^^^ (-1 : Int32)).toInt8.toInt32))))] (.int 0) := A202q
      have O202 := own_extK O200 K202q (allS ge_b169 all0)
      have KK202 : Keep h0 T202.heap [] := KK200.trans K202q (allS (Or.inr sz_b169) all0)
      have Fz203 := (Safe.keep K200q (allS Fz201 all0) R198.1 Fz201)
      have R202 := R200.trans (CHr.keep K202q (allS Fz203 all0) R200.1)
      refine own_go (T202.setTop (mkF m 157 #[.val (.int p0), .val (.int p1), .val (.int p2), .val (.int p3), .val (.int p4), .val (.int p5), .val (.ref b1), .val (.ref b17), .val (.int (3 : Int32)), .val (.ref b169), .val (.ref b176), .unset, .unset] [])) (fun t_ k_ => st202 _ k_) ?_
      refine own_go (T202.setTop (mkF m 159 #[.val (.int p0), .val (.int p1), .val (.int p2), .val (.int p3), .val (.int p4), .val (.int p5), .val (.ref b1), .val (.ref b17), .val (.int (3 : Int32)), .val (.ref b169), .val (.ref b176), .unset, .unset] [(.ref b169)])) (fun t_ k_ => XS.aload X202.here hx rfl (hb hby at_157) rfl rfl k_) ?_
      refine own_go (T202.setTop (mkF m 160 #[.val (.int p0), .val (.int p1), .val (.int p2), .val (.int p3), .val (.int p4), .val (.int p5), .val (.ref b1), .val (.ref b17), .val (.int (3 : Int32)), .val (.ref b169), .val (.ref b176), .unset, .unset] [(.int (3 : Int32)), (.ref b169)])) (fun t_ k_ => XS.iconst X202.here hx rfl (hb hby at_159) k_) ?_
      obtain ⟨_, _, ⟨T204, Lu204, ku204, nu204⟩, -, X204, ⟨Lc204, hQ204, lu204, yu204, zu204⟩, st204⟩ := Jvm.LawKit.callS X202 hx (y := (⟨"com/example/trailcaster/trailcaster/model/ParticipantObjectQueryPinLaw", "flip", "([BI)V"⟩ : MethodName)) hown (mvT hZ (hw _ (List.mem_of_getElem? (i := 216) rfl))) (mvT hZ (hw _ (List.mem_of_getElem? (i := 217) rfl))) (mvT hZ (hw _ (List.mem_of_getElem? (i := 73) rfl))) (mvT hZ (hw _ (List.mem_of_getElem? (i := 218) rfl))) (by decide) (backOf (W := 0) (rm_flipo l Z a0 hw [] (b169) (k169) ((3 : Int32)) ([(.int (nar .byte ((((nar .byte (p2.toInt8.toInt32)) ^^^ (-1 : Int32)).toInt8.toInt32)))), (.int (nar .byte ((((nar .byte (p3.toInt8.toInt32)) ^^^ (-1 : Int32)).toInt8.toInt32)))), (.int (nar .byte ((((nar .byte (p4.toInt8.toInt32)) ^^^ (-1 : Int32)).toInt8.toInt32))))]) ((3 : Int32)) T202.heap O202 A202r (by decide)) hZ (hw _ (List.mem_of_getElem? (i := 218) rfl)) (hw _ (List.mem_of_getElem? (i := 73) rfl)) (by decide) (by decide)) (g := (mkF m 160 #[.val (.int p0), .val (.int p1), .val (.int p2), .val (.int p3), .val (.int p4), .val (.int p5), .val (.ref b1), .val (.ref b17), .val (.int (3 : Int32)), .val (.ref b169), .val (.ref b176), .unset, .unset] [(.int (3 : Int32)), (.ref b169)])) rfl (by rw [hml]; rfl) (argsL := [(.ref b169), (.int (3 : Int32))]) (rest := []) (lenOf own_pd19 rfl) rfl (by show 2 * 0 + _ ≤ _; exact Nat.le_of_eq rfl) (hb hby at_160) (fun _ _ => ⟨rfl, rfl, (by decide : 34 + 0 ≤ _), (by decide : 378 + 0 ≤ _)⟩)
      dsimp only [Pt.U, Pt.locs, Pt.cells, Pt.slots] at X204 lu204 yu204 zu204 st204 hQ204
      subst lu204 yu204 zu204
      obtain ⟨rfl, N204q, e204⟩ := hQ204
      have N204 := Fr.app N202 N204q
      refine own_go (T204.setTop (mkF m 163 #[.val (.int p0), .val (.int p1), .val (.int p2), .val (.int p3), .val (.int p4), .val (.int p5), .val (.ref b1), .val (.ref b17), .val (.int (3 : Int32)), .val (.ref b169), .val (.ref b176), .unset, .unset] [])) (fun t_ k_ => st204 _ k_) ?_
      refine own_go (T204.setTop (mkF m 165 #[.val (.int p0), .val (.int p1), .val (.int p2), .val (.int p3), .val (.int p4), .val (.int p5), .val (.ref b1), .val (.ref b17), .val (.int (3 : Int32)), .val (.ref b169), .val (.ref b176), .unset, .unset] [(.ref b176)])) (fun t_ k_ => XS.aload X204.here hx rfl (hb hby at_163) rfl rfl k_) ?_
      have Fz205 := (((F194q.keep K198q (ninS (Ne.symm Nz196) nin0)).keep K200q (ninS (Ne.symm Nz196) nin0)).keep K202q (ninS (Ne.symm Nz196) nin0))
      have Fz206 := (((Y194q.keep K198q).keep K200q).keep K202q)
      have Nz207 : b169 ≠ r194 := (Nat.ne_of_lt (Nat.lt_of_lt_of_le Fz192.lt u2_194))
      have Fz208 := (((A194q.keep K198q (ninS (Ne.symm Nz207) nin0)).keep K200q (ninS (Ne.symm Nz207) nin0)).keep K202q (ninS (Ne.symm Nz207) nin0))
      have Fz210 := (((X194q.keep K198q).keep K200q).keep K202q)
      obtain ⟨cq209, kq209, q209a, q209b, q209c⟩ := isOf hZ e204 Fz210
      obtain ⟨_, _, ⟨T209, Lu209, ku209, nu209⟩, -, X209, ⟨Lc209, hQ209, lu209, yu209, zu209⟩, st209⟩ := X204.virtualBack hx (y := (⟨"com/example/trailcaster/trailcaster/model/ParticipantObject", "query", "()[B"⟩ : MethodName)) (z := (⟨"com/example/trailcaster/trailcaster/model/ParticipantObject", "query", "()[B"⟩ : MethodName)) hown (mvT hZ (hw _ (List.mem_of_getElem? (i := 219) rfl))) (mvT hZ (hw _ (List.mem_of_getElem? (i := 220) rfl))) (notFace_of_selects (args := #[]) (mvT hZ (hw _ (List.mem_of_getElem? (i := 222) rfl)))) (mvT hZ (hw _ (List.mem_of_getElem? (i := 222) rfl))) (mvT hZ (hw _ (List.mem_of_getElem? (i := 221) rfl))) (by decide) (backOf (W := 0) (rm_qyB l Z a0 hw [] (b176) (r194) (k169) ((3 : Int32)) ([(.int (nar .byte (p2.toInt8.toInt32))), (.int (nar .byte (p3.toInt8.toInt32))), (.int (nar .byte (p4.toInt8.toInt32)))]) T202.heap O202 Fz205 Fz206 Fz208 (by decide)) hZ (hw _ (List.mem_of_getElem? (i := 223) rfl)) (hw _ (List.mem_of_getElem? (i := 77) rfl)) (by decide) (by decide)) q209a q209c (g := (mkF m 165 #[.val (.int p0), .val (.int p1), .val (.int p2), .val (.int p3), .val (.int p4), .val (.int p5), .val (.ref b1), .val (.ref b17), .val (.int (3 : Int32)), .val (.ref b169), .val (.ref b176), .unset, .unset] [(.ref b176)])) rfl (by rw [hml]; rfl) (Steps.refl _) (argsL := []) (rest := []) (lenOf own_pd20 rfl) rfl (by show 2 * 0 + _ ≤ _; exact Nat.le_of_eq rfl) (hb hby at_165) (fun _ _ => ⟨rfl, e204, (by decide : 34 + 1 ≤ _), (by decide : 378 + 4 ≤ _)⟩)
      dsimp only [Pt.U, Pt.locs, Pt.cells, Pt.slots] at X209 lu209 yu209 zu209 st209 hQ209
      subst lu209 yu209 zu209
      obtain ⟨r209, rfl, N209q, K209q, u2_209, A209q⟩ := hQ209
      have N209 := Fr.app N204 N209q
      have Sn209 := own_snew R202.1 u2_209
      have O209 := own_extK O202 K209q all0
      have KK209 : Keep h0 T209.heap [] := KK202.trans K209q all0
      have R209 := R202.trans (CHr.keep K209q all0 R202.1)
      refine own_go (T209.setTop (mkF m 168 #[.val (.int p0), .val (.int p1), .val (.int p2), .val (.int p3), .val (.int p4), .val (.int p5), .val (.ref b1), .val (.ref b17), .val (.int (3 : Int32)), .val (.ref b169), .val (.ref b176), .unset, .unset] [(.ref r209)])) (fun t_ k_ => st209.trans k_) ?_
      refine own_go (T209.setTop (mkF m 170 #[.val (.int p0), .val (.int p1), .val (.int p2), .val (.int p3), .val (.int p4), .val (.int p5), .val (.ref b1), .val (.ref b17), .val (.int (3 : Int32)), .val (.ref b169), .val (.ref b176), .val (.ref r209), .unset] [])) (fun t_ k_ => XS.astore X209.here hx rfl (hb hby at_168) rfl rfl (l' := #[.val (.int p0), .val (.int p1), .val (.int p2), .val (.int p3), .val (.int p4), .val (.int p5), .val (.ref b1), .val (.ref b17), .val (.int (3 : Int32)), .val (.ref b169), .val (.ref b176), .val (.ref r209), .unset]) rfl k_) ?_
      refine own_go (T209.setTop (mkF m 172 #[.val (.int p0), .val (.int p1), .val (.int p2), .val (.int p3), .val (.int p4), .val (.int p5), .val (.ref b1), .val (.ref b17), .val (.int (3 : Int32)), .val (.ref b169), .val (.ref b176), .val (.ref r209), .unset] [(.ref r209)])) (fun t_ k_ => XS.aload X209.here hx rfl (hb hby at_170) rfl rfl k_) ?_
      refine own_go (T209.setTop (mkF m 175 #[.val (.int p0), .val (.int p1), .val (.int p2), .val (.int p3), .val (.int p4), .val (.int p5), .val (.ref b1), .val (.ref b17), .val (.int (3 : Int32)), .val (.ref b169), .val (.ref b176), .val (.ref r209), .unset] [])) (fun t_ k_ => XS.ifnullNo X209.here hx rfl (hb hby at_172) rfl k_) ?_
      refine own_go (T209.setTop (mkF m 177 #[.val (.int p0), .val (.int p1), .val (.int p2), .val (.int p3), .val (.int p4), .val (.int p5), .val (.ref b1), .val (.ref b17), .val (.int (3 : Int32)), .val (.ref b169), .val (.ref b176), .val (.ref r209), .unset] [(.ref r209)])) (fun t_ k_ => XS.aload X209.here hx rfl (hb hby at_175) rfl rfl k_) ?_
      refine own_go (T209.setTop (mkF m 179 #[.val (.int p0), .val (.int p1), .val (.int p2), .val (.int p3), .val (.int p4), .val (.int p5), .val (.ref b1), .val (.ref b17), .val (.int (3 : Int32)), .val (.ref b169), .val (.ref b176), .val (.ref r209), .unset] [(.int (3 : Int32)), (.ref r209)])) (fun t_ k_ => XS.iload X209.here hx rfl (hb hby at_177) rfl k_) ?_
      refine own_go (T209.setTop (mkF m 180 #[.val (.int p0), .val (.int p1), .val (.int p2), .val (.int p3), .val (.int p4), .val (.int p5), .val (.ref b1), .val (.ref b17), .val (.int (3 : Int32)), .val (.ref b169), .val (.ref b176), .val (.ref r209), .unset] [(.int p2), (.int (3 : Int32)), (.ref r209)])) (fun t_ k_ => XS.iloadN X209.here hx rfl (hb hby at_179) rfl k_) ?_
      refine own_go (T209.setTop (mkF m 181 #[.val (.int p0), .val (.int p1), .val (.int p2), .val (.int p3), .val (.int p4), .val (.int p5), .val (.ref b1), .val (.ref b17), .val (.int (3 : Int32)), .val (.ref b169), .val (.ref b176), .val (.ref r209), .unset] [(.int p3), (.int p2), (.int (3 : Int32)), (.ref r209)])) (fun t_ k_ => XS.iloadN X209.here hx rfl (hb hby at_180) rfl k_) ?_
      refine own_go (T209.setTop (mkF m 183 #[.val (.int p0), .val (.int p1), .val (.int p2), .val (.int p3), .val (.int p4), .val (.int p5), .val (.ref b1), .val (.ref b17), .val (.int (3 : Int32)), .val (.ref b169), .val (.ref b176), .val (.ref r209), .unset] [(.int p4), (.int p3), (.int p2), (.int (3 : Int32)), (.ref r209)])) (fun t_ k_ => XS.iload X209.here hx rfl (hb hby at_181) rfl k_) ?_
      refine own_go (T209.setTop (mkF m 185 #[.val (.int p0), .val (.int p1), .val (.int p2), .val (.int p3), .val (.int p4), .val (.int p5), .val (.ref b1), .val (.ref b17), .val (.int (3 : Int32)), .val (.ref b169), .val (.ref b176), .val (.ref r209), .unset] [(.int p5), (.int p4), (.int p3), (.int p2), (.int (3 : Int32)), (.ref r209)])) (fun t_ k_ => XS.iload X209.here hx rfl (hb hby at_183) rfl k_) ?_
      obtain ⟨_, _, ⟨T211, Lu211, ku211, nu211⟩, -, X211, ⟨Lc211, hQ211, lu211, yu211, zu211⟩, st211⟩ := Jvm.LawKit.callS X209 hx (y := (⟨"com/example/trailcaster/trailcaster/model/ParticipantObjectQueryPinLaw", "same", "([BIIIII)Z"⟩ : MethodName)) hown (mvT hZ (hw _ (List.mem_of_getElem? (i := 224) rfl))) (mvT hZ (hw _ (List.mem_of_getElem? (i := 225) rfl))) (mvT hZ (hw _ (List.mem_of_getElem? (i := 73) rfl))) (mvT hZ (hw _ (List.mem_of_getElem? (i := 226) rfl))) (by decide) (backOf (W := 0) (rm_same3 l Z a0 hw [] (r209) (k169) (p2) (p3) (p4) (p5) T209.heap O209 A209q) hZ (hw _ (List.mem_of_getElem? (i := 226) rfl)) (hw _ (List.mem_of_getElem? (i := 73) rfl)) (by decide) (by decide)) (g := (mkF m 185 #[.val (.int p0), .val (.int p1), .val (.int p2), .val (.int p3), .val (.int p4), .val (.int p5), .val (.ref b1), .val (.ref b17), .val (.int (3 : Int32)), .val (.ref b169), .val (.ref b176), .val (.ref r209), .unset] [(.int p5), (.int p4), (.int p3), (.int p2), (.int (3 : Int32)), (.ref r209)])) rfl (by rw [hml]; rfl) (argsL := [(.ref r209), (.int (3 : Int32)), (.int p2), (.int p3), (.int p4), (.int p5)]) (rest := []) (lenOf own_pd21 rfl) rfl (by show 2 * 0 + _ ≤ _; exact Nat.le_of_eq rfl) (hb hby at_185) (fun _ _ => ⟨rfl, rfl, (by decide : 35 + 0 ≤ _), (by decide : 382 + 0 ≤ _)⟩)
      dsimp only [Pt.U, Pt.locs, Pt.cells, Pt.slots] at X211 lu211 yu211 zu211 st211 hQ211
      subst lu211 yu211 zu211
      obtain ⟨rfl, N211q, e211⟩ := hQ211
      have N211 := Fr.app N209 N211q
      refine own_go (T211.setTop (mkF m 188 #[.val (.int p0), .val (.int p1), .val (.int p2), .val (.int p3), .val (.int p4), .val (.int p5), .val (.ref b1), .val (.ref b17), .val (.int (3 : Int32)), .val (.ref b169), .val (.ref b176), .val (.ref r209), .unset] [(.int (1 : Int32))])) (fun t_ k_ => st211 _ k_) ?_
      refine own_go (T211.setTop (mkF m 193 #[.val (.int p0), .val (.int p1), .val (.int p2), .val (.int p3), .val (.int p4), .val (.int p5), .val (.ref b1), .val (.ref b17), .val (.int (3 : Int32)), .val (.ref b169), .val (.ref b176), .val (.ref r209), .unset] [])) (fun t_ k_ => XS.ifYes X211.here hx rfl (pc0 := 188) (pc' := 193) rfl (hb hby at_188) rfl ((if0 _ _).trans (feq (by decide : ¬ ((1 : Int32) = (0 : Int32)))).2) (by decide) (by decide) k_) ?_
      refine own_go (T211.setTop (mkF m 195 #[.val (.int p0), .val (.int p1), .val (.int p2), .val (.int p3), .val (.int p4), .val (.int p5), .val (.ref b1), .val (.ref b17), .val (.int (3 : Int32)), .val (.ref b169), .val (.ref b176), .val (.ref r209), .unset] [(.ref r209)])) (fun t_ k_ => XS.aload X211.here hx rfl (hb hby at_193) rfl rfl k_) ?_
      refine own_go (T211.setTop (mkF m 196 #[.val (.int p0), .val (.int p1), .val (.int p2), .val (.int p3), .val (.int p4), .val (.int p5), .val (.ref b1), .val (.ref b17), .val (.int (3 : Int32)), .val (.ref b169), .val (.ref b176), .val (.ref r209), .unset] [(.int (0 : Int32)), (.ref r209)])) (fun t_ k_ => XS.iconst X211.here hx rfl (hb hby at_195) k_) ?_
      obtain ⟨_, _, ⟨T212, Lu212, ku212, nu212⟩, -, X212, ⟨Lc212, hQ212, lu212, yu212, zu212⟩, st212⟩ := Jvm.LawKit.callS X211 hx (y := (⟨"com/example/trailcaster/trailcaster/model/ParticipantObjectQueryPinLaw", "flip", "([BI)V"⟩ : MethodName)) hown (mvT hZ (hw _ (List.mem_of_getElem? (i := 216) rfl))) (mvT hZ (hw _ (List.mem_of_getElem? (i := 217) rfl))) (mvT hZ (hw _ (List.mem_of_getElem? (i := 73) rfl))) (mvT hZ (hw _ (List.mem_of_getElem? (i := 218) rfl))) (by decide) (backOf (W := 0) (rm_flipi l Z a0 hw [] (r209) (k169) ((3 : Int32)) ([(.int (nar .byte (p2.toInt8.toInt32))), (.int (nar .byte (p3.toInt8.toInt32))), (.int (nar .byte (p4.toInt8.toInt32)))]) ((0 : Int32)) (0) ((nar .byte (p2.toInt8.toInt32))) T209.heap O209 A209q (by decide) (by decide) rfl (Nat.le_of_ble_eq_true rfl) (Nat.le_trans O202.1 u2_209) rfl) hZ (hw _ (List.mem_of_getElem? (i := 218) rfl)) (hw _ (List.mem_of_getElem? (i := 73) rfl)) (by decide) (by decide)) (g := (mkF m 196 #[.val (.int p0), .val (.int p1), .val (.int p2), .val (.int p3), .val (.int p4), .val (.int p5), .val (.ref b1), .val (.ref b17), .val (.int (3 : Int32)), .val (.ref b169), .val (.ref b176), .val (.ref r209), .unset] [(.int (0 : Int32)), (.ref r209)])) rfl (by rw [hml]; rfl) (argsL := [(.ref r209), (.int (0 : Int32))]) (rest := []) (lenOf own_pd19 rfl) rfl (by show 2 * 0 + _ ≤ _; exact Nat.le_of_eq rfl) (hb hby at_196) (fun _ _ => ⟨rfl, e211, (by decide : 35 + 0 ≤ _), (by decide : 382 + 0 ≤ _)⟩)
      dsimp only [Pt.U, Pt.locs, Pt.cells, Pt.slots] at X212 lu212 yu212 zu212 st212 hQ212
      subst lu212 yu212 zu212
      obtain ⟨rfl, N212q, K212q, A212q⟩ := hQ212
      have N212 := Fr.app N211 N212q
      have A212r : Arv Z T212.heap r209 k169 .byte (3 : Int32) [(.int (nar .byte ((((nar .byte (p2.toInt8.toInt32)) ^^^ (-1 : Int32)).toInt8.toInt32)))), (.int (nar .byte (p3.toInt8.toInt32))), (.int (nar .byte (p4.toInt8.toInt32)))] (.int 0) := A212q
      have O212 := own_extK O209 K212q (allS (Nat.le_trans O202.1 u2_209) all0)
      have KK212 : Keep h0 T212.heap [] := KK209.trans K212q (allS (Or.inr (Nat.le_trans KK202.1 u2_209)) all0)
      have Fz213 := (Safe.keep K209q all0 R202.1 Sn209)
      have R212 := R209.trans (CHr.keep K212q (allS Fz213 all0) R209.1)
      refine own_go (T212.setTop (mkF m 199 #[.val (.int p0), .val (.int p1), .val (.int p2), .val (.int p3), .val (.int p4), .val (.int p5), .val (.ref b1), .val (.ref b17), .val (.int (3 : Int32)), .val (.ref b169), .val (.ref b176), .val (.ref r209), .unset] [])) (fun t_ k_ => st212 _ k_) ?_
      refine own_go (T212.setTop (mkF m 201 #[.val (.int p0), .val (.int p1), .val (.int p2), .val (.int p3), .val (.int p4), .val (.int p5), .val (.ref b1), .val (.ref b17), .val (.int (3 : Int32)), .val (.ref b169), .val (.ref b176), .val (.ref r209), .unset] [(.ref r209)])) (fun t_ k_ => XS.aload X212.here hx rfl (hb hby at_199) rfl rfl k_) ?_
      refine own_go (T212.setTop (mkF m 202 #[.val (.int p0), .val (.int p1), .val (.int p2), .val (.int p3), .val (.int p4), .val (.int p5), .val (.ref b1), .val (.ref b17), .val (.int (3 : Int32)), .val (.ref b169), .val (.ref b176), .val (.ref r209), .unset] [(.int (1 : Int32)), (.ref r209)])) (fun t_ k_ => XS.iconst X212.here hx rfl (hb hby at_201) k_) ?_
      obtain ⟨_, _, ⟨T214, Lu214, ku214, nu214⟩, -, X214, ⟨Lc214, hQ214, lu214, yu214, zu214⟩, st214⟩ := Jvm.LawKit.callS X212 hx (y := (⟨"com/example/trailcaster/trailcaster/model/ParticipantObjectQueryPinLaw", "flip", "([BI)V"⟩ : MethodName)) hown (mvT hZ (hw _ (List.mem_of_getElem? (i := 216) rfl))) (mvT hZ (hw _ (List.mem_of_getElem? (i := 217) rfl))) (mvT hZ (hw _ (List.mem_of_getElem? (i := 73) rfl))) (mvT hZ (hw _ (List.mem_of_getElem? (i := 218) rfl))) (by decide) (backOf (W := 0) (rm_flipi l Z a0 hw [] (r209) (k169) ((3 : Int32)) ([(.int (nar .byte ((((nar .byte (p2.toInt8.toInt32)) ^^^ (-1 : Int32)).toInt8.toInt32)))), (.int (nar .byte (p3.toInt8.toInt32))), (.int (nar .byte (p4.toInt8.toInt32)))]) ((1 : Int32)) (1) ((nar .byte (p3.toInt8.toInt32))) T212.heap O212 A212r (by decide) (by decide) rfl (Nat.le_of_ble_eq_true rfl) (Nat.le_trans O202.1 u2_209) rfl) hZ (hw _ (List.mem_of_getElem? (i := 218) rfl)) (hw _ (List.mem_of_getElem? (i := 73) rfl)) (by decide) (by decide)) (g := (mkF m 202 #[.val (.int p0), .val (.int p1), .val (.int p2), .val (.int p3), .val (.int p4), .val (.int p5), .val (.ref b1), .val (.ref b17), .val (.int (3 : Int32)), .val (.ref b169), .val (.ref b176), .val (.ref r209), .unset] [(.int (1 : Int32)), (.ref r209)])) rfl (by rw [hml]; rfl) (argsL := [(.ref r209), (.int (1 : Int32))]) (rest := []) (lenOf own_pd19 rfl) rfl (by show 2 * 0 + _ ≤ _; exact Nat.le_of_eq rfl) (hb hby at_202) (fun _ _ => ⟨rfl, rfl, (by decide : 35 + 0 ≤ _), (by decide : 382 + 0 ≤ _)⟩)
      dsimp only [Pt.U, Pt.locs, Pt.cells, Pt.slots] at X214 lu214 yu214 zu214 st214 hQ214
      subst lu214 yu214 zu214
      obtain ⟨rfl, N214q, K214q, A214q⟩ := hQ214
      have N214 := Fr.app N212 N214q
      have A214r : Arv Z T214.heap r209 k169 .byte (3 : Int32) [(.int (nar .byte ((((nar .byte (p2.toInt8.toInt32)) ^^^ (-1 : Int32)).toInt8.toInt32)))), (.int (nar .byte ((((nar .byte (p3.toInt8.toInt32)) ^^^ (-1 : Int32)).toInt8.toInt32)))), (.int (nar .byte (p4.toInt8.toInt32)))] (.int 0) := A214q
      have O214 := own_extK O212 K214q (allS (Nat.le_trans O202.1 u2_209) all0)
      have KK214 : Keep h0 T214.heap [] := KK212.trans K214q (allS (Or.inr (Nat.le_trans KK202.1 u2_209)) all0)
      have Fz215 := (Safe.keep K212q (allS Fz213 all0) R209.1 Fz213)
      have R214 := R212.trans (CHr.keep K214q (allS Fz215 all0) R212.1)
      refine own_go (T214.setTop (mkF m 205 #[.val (.int p0), .val (.int p1), .val (.int p2), .val (.int p3), .val (.int p4), .val (.int p5), .val (.ref b1), .val (.ref b17), .val (.int (3 : Int32)), .val (.ref b169), .val (.ref b176), .val (.ref r209), .unset] [])) (fun t_ k_ => st214 _ k_) ?_
      refine own_go (T214.setTop (mkF m 207 #[.val (.int p0), .val (.int p1), .val (.int p2), .val (.int p3), .val (.int p4), .val (.int p5), .val (.ref b1), .val (.ref b17), .val (.int (3 : Int32)), .val (.ref b169), .val (.ref b176), .val (.ref r209), .unset] [(.ref r209)])) (fun t_ k_ => XS.aload X214.here hx rfl (hb hby at_205) rfl rfl k_) ?_
      refine own_go (T214.setTop (mkF m 208 #[.val (.int p0), .val (.int p1), .val (.int p2), .val (.int p3), .val (.int p4), .val (.int p5), .val (.ref b1), .val (.ref b17), .val (.int (3 : Int32)), .val (.ref b169), .val (.ref b176), .val (.ref r209), .unset] [(.int (2 : Int32)), (.ref r209)])) (fun t_ k_ => XS.iconst X214.here hx rfl (hb hby at_207) k_) ?_
      obtain ⟨_, _, ⟨T216, Lu216, ku216, nu216⟩, -, X216, ⟨Lc216, hQ216, lu216, yu216, zu216⟩, st216⟩ := Jvm.LawKit.callS X214 hx (y := (⟨"com/example/trailcaster/trailcaster/model/ParticipantObjectQueryPinLaw", "flip", "([BI)V"⟩ : MethodName)) hown (mvT hZ (hw _ (List.mem_of_getElem? (i := 216) rfl))) (mvT hZ (hw _ (List.mem_of_getElem? (i := 217) rfl))) (mvT hZ (hw _ (List.mem_of_getElem? (i := 73) rfl))) (mvT hZ (hw _ (List.mem_of_getElem? (i := 218) rfl))) (by decide) (backOf (W := 0) (rm_flipi l Z a0 hw [] (r209) (k169) ((3 : Int32)) ([(.int (nar .byte ((((nar .byte (p2.toInt8.toInt32)) ^^^ (-1 : Int32)).toInt8.toInt32)))), (.int (nar .byte ((((nar .byte (p3.toInt8.toInt32)) ^^^ (-1 : Int32)).toInt8.toInt32)))), (.int (nar .byte (p4.toInt8.toInt32)))]) ((2 : Int32)) (2) ((nar .byte (p4.toInt8.toInt32))) T214.heap O214 A214r (by decide) (by decide) rfl (Nat.le_of_ble_eq_true rfl) (Nat.le_trans O202.1 u2_209) rfl) hZ (hw _ (List.mem_of_getElem? (i := 218) rfl)) (hw _ (List.mem_of_getElem? (i := 73) rfl)) (by decide) (by decide)) (g := (mkF m 208 #[.val (.int p0), .val (.int p1), .val (.int p2), .val (.int p3), .val (.int p4), .val (.int p5), .val (.ref b1), .val (.ref b17), .val (.int (3 : Int32)), .val (.ref b169), .val (.ref b176), .val (.ref r209), .unset] [(.int (2 : Int32)), (.ref r209)])) rfl (by rw [hml]; rfl) (argsL := [(.ref r209), (.int (2 : Int32))]) (rest := []) (lenOf own_pd19 rfl) rfl (by show 2 * 0 + _ ≤ _; exact Nat.le_of_eq rfl) (hb hby at_208) (fun _ _ => ⟨rfl, rfl, (by decide : 35 + 0 ≤ _), (by decide : 382 + 0 ≤ _)⟩)
      dsimp only [Pt.U, Pt.locs, Pt.cells, Pt.slots] at X216 lu216 yu216 zu216 st216 hQ216
      subst lu216 yu216 zu216
      obtain ⟨rfl, N216q, K216q, A216q⟩ := hQ216
      have N216 := Fr.app N214 N216q
      have A216r : Arv Z T216.heap r209 k169 .byte (3 : Int32) [(.int (nar .byte ((((nar .byte (p2.toInt8.toInt32)) ^^^ (-1 : Int32)).toInt8.toInt32)))), (.int (nar .byte ((((nar .byte (p3.toInt8.toInt32)) ^^^ (-1 : Int32)).toInt8.toInt32)))), (.int (nar .byte ((((nar .byte (p4.toInt8.toInt32)) ^^^ (-1 : Int32)).toInt8.toInt32))))] (.int 0) := A216q
      have O216 := own_extK O214 K216q (allS (Nat.le_trans O202.1 u2_209) all0)
      have KK216 : Keep h0 T216.heap [] := KK214.trans K216q (allS (Or.inr (Nat.le_trans KK202.1 u2_209)) all0)
      have Fz217 := (Safe.keep K214q (allS Fz215 all0) R212.1 Fz215)
      have R216 := R214.trans (CHr.keep K216q (allS Fz217 all0) R214.1)
      refine own_go (T216.setTop (mkF m 211 #[.val (.int p0), .val (.int p1), .val (.int p2), .val (.int p3), .val (.int p4), .val (.int p5), .val (.ref b1), .val (.ref b17), .val (.int (3 : Int32)), .val (.ref b169), .val (.ref b176), .val (.ref r209), .unset] [])) (fun t_ k_ => st216 _ k_) ?_
      refine own_go (T216.setTop (mkF m 213 #[.val (.int p0), .val (.int p1), .val (.int p2), .val (.int p3), .val (.int p4), .val (.int p5), .val (.ref b1), .val (.ref b17), .val (.int (3 : Int32)), .val (.ref b169), .val (.ref b176), .val (.ref r209), .unset] [(.ref r209)])) (fun t_ k_ => XS.aload X216.here hx rfl (hb hby at_211) rfl rfl k_) ?_
      refine own_go (T216.setTop (mkF m 214 #[.val (.int p0), .val (.int p1), .val (.int p2), .val (.int p3), .val (.int p4), .val (.int p5), .val (.ref b1), .val (.ref b17), .val (.int (3 : Int32)), .val (.ref b169), .val (.ref b176), .val (.ref r209), .unset] [(.int (3 : Int32)), (.ref r209)])) (fun t_ k_ => XS.iconst X216.here hx rfl (hb hby at_213) k_) ?_
      obtain ⟨_, _, ⟨T218, Lu218, ku218, nu218⟩, -, X218, ⟨Lc218, hQ218, lu218, yu218, zu218⟩, st218⟩ := Jvm.LawKit.callS X216 hx (y := (⟨"com/example/trailcaster/trailcaster/model/ParticipantObjectQueryPinLaw", "flip", "([BI)V"⟩ : MethodName)) hown (mvT hZ (hw _ (List.mem_of_getElem? (i := 216) rfl))) (mvT hZ (hw _ (List.mem_of_getElem? (i := 217) rfl))) (mvT hZ (hw _ (List.mem_of_getElem? (i := 73) rfl))) (mvT hZ (hw _ (List.mem_of_getElem? (i := 218) rfl))) (by decide) (backOf (W := 0) (rm_flipo l Z a0 hw [] (r209) (k169) ((3 : Int32)) ([(.int (nar .byte ((((nar .byte (p2.toInt8.toInt32)) ^^^ (-1 : Int32)).toInt8.toInt32)))), (.int (nar .byte ((((nar .byte (p3.toInt8.toInt32)) ^^^ (-1 : Int32)).toInt8.toInt32)))), (.int (nar .byte ((((nar .byte (p4.toInt8.toInt32)) ^^^ (-1 : Int32)).toInt8.toInt32))))]) ((3 : Int32)) T216.heap O216 A216r (by decide)) hZ (hw _ (List.mem_of_getElem? (i := 218) rfl)) (hw _ (List.mem_of_getElem? (i := 73) rfl)) (by decide) (by decide)) (g := (mkF m 214 #[.val (.int p0), .val (.int p1), .val (.int p2), .val (.int p3), .val (.int p4), .val (.int p5), .val (.ref b1), .val (.ref b17), .val (.int (3 : Int32)), .val (.ref b169), .val (.ref b176), .val (.ref r209), .unset] [(.int (3 : Int32)), (.ref r209)])) rfl (by rw [hml]; rfl) (argsL := [(.ref r209), (.int (3 : Int32))]) (rest := []) (lenOf own_pd19 rfl) rfl (by show 2 * 0 + _ ≤ _; exact Nat.le_of_eq rfl) (hb hby at_214) (fun _ _ => ⟨rfl, rfl, (by decide : 35 + 0 ≤ _), (by decide : 382 + 0 ≤ _)⟩)
      dsimp only [Pt.U, Pt.locs, Pt.cells, Pt.slots] at X218 lu218 yu218 zu218 st218 hQ218
      subst lu218 yu218 zu218
      obtain ⟨rfl, N218q, e218⟩ := hQ218
      have N218 := Fr.app N216 N218q
      refine own_go (T218.setTop (mkF m 217 #[.val (.int p0), .val (.int p1), .val (.int p2), .val (.int p3), .val (.int p4), .val (.int p5), .val (.ref b1), .val (.ref b17), .val (.int (3 : Int32)), .val (.ref b169), .val (.ref b176), .val (.ref r209), .unset] [])) (fun t_ k_ => st218 _ k_) ?_
      refine own_go (T218.setTop (mkF m 219 #[.val (.int p0), .val (.int p1), .val (.int p2), .val (.int p3), .val (.int p4), .val (.int p5), .val (.ref b1), .val (.ref b17), .val (.int (3 : Int32)), .val (.ref b169), .val (.ref b176), .val (.ref r209), .unset] [(.ref b176)])) (fun t_ k_ => XS.aload X218.here hx rfl (hb hby at_217) rfl rfl k_) ?_
      have Nz219 : b176 ≠ r209 := (Nat.ne_of_lt (Nat.lt_of_lt_of_le Fz210.lt u2_209))
      have Fz220 := ((((Fz205.keep K209q nin0).keep K212q (ninS Nz219 nin0)).keep K214q (ninS Nz219 nin0)).keep K216q (ninS Nz219 nin0))
      have Fz221 := ((((Fz206.keep K209q).keep K212q).keep K214q).keep K216q)
      have Nz222 : r194 ≠ r209 := (Nat.ne_of_lt (Nat.lt_of_lt_of_le Fz206.lt u2_209))
      have Fz223 := ((((Fz208.keep K209q nin0).keep K212q (ninS Nz222 nin0)).keep K214q (ninS Nz222 nin0)).keep K216q (ninS Nz222 nin0))
      have Fz225 := ((((Fz210.keep K209q).keep K212q).keep K214q).keep K216q)
      obtain ⟨cq224, kq224, q224a, q224b, q224c⟩ := isOf hZ e218 Fz225
      obtain ⟨_, _, ⟨T224, Lu224, ku224, nu224⟩, -, X224, ⟨Lc224, hQ224, lu224, yu224, zu224⟩, st224⟩ := X218.virtualBack hx (y := (⟨"com/example/trailcaster/trailcaster/model/ParticipantObject", "query", "()[B"⟩ : MethodName)) (z := (⟨"com/example/trailcaster/trailcaster/model/ParticipantObject", "query", "()[B"⟩ : MethodName)) hown (mvT hZ (hw _ (List.mem_of_getElem? (i := 219) rfl))) (mvT hZ (hw _ (List.mem_of_getElem? (i := 220) rfl))) (notFace_of_selects (args := #[]) (mvT hZ (hw _ (List.mem_of_getElem? (i := 222) rfl)))) (mvT hZ (hw _ (List.mem_of_getElem? (i := 222) rfl))) (mvT hZ (hw _ (List.mem_of_getElem? (i := 221) rfl))) (by decide) (backOf (W := 0) (rm_qyB l Z a0 hw [] (b176) (r194) (k169) ((3 : Int32)) ([(.int (nar .byte (p2.toInt8.toInt32))), (.int (nar .byte (p3.toInt8.toInt32))), (.int (nar .byte (p4.toInt8.toInt32)))]) T216.heap O216 Fz220 Fz221 Fz223 (by decide)) hZ (hw _ (List.mem_of_getElem? (i := 223) rfl)) (hw _ (List.mem_of_getElem? (i := 77) rfl)) (by decide) (by decide)) q224a q224c (g := (mkF m 219 #[.val (.int p0), .val (.int p1), .val (.int p2), .val (.int p3), .val (.int p4), .val (.int p5), .val (.ref b1), .val (.ref b17), .val (.int (3 : Int32)), .val (.ref b169), .val (.ref b176), .val (.ref r209), .unset] [(.ref b176)])) rfl (by rw [hml]; rfl) (Steps.refl _) (argsL := []) (rest := []) (lenOf own_pd20 rfl) rfl (by show 2 * 0 + _ ≤ _; exact Nat.le_of_eq rfl) (hb hby at_219) (fun _ _ => ⟨rfl, e218, (by decide : 35 + 1 ≤ _), (by decide : 382 + 4 ≤ _)⟩)
      dsimp only [Pt.U, Pt.locs, Pt.cells, Pt.slots] at X224 lu224 yu224 zu224 st224 hQ224
      subst lu224 yu224 zu224
      obtain ⟨r224, rfl, N224q, K224q, u2_224, A224q⟩ := hQ224
      have N224 := Fr.app N218 N224q
      have Sn224 := own_snew R216.1 u2_224
      have O224 := own_extK O216 K224q all0
      have KK224 : Keep h0 T224.heap [] := KK216.trans K224q all0
      have R224 := R216.trans (CHr.keep K224q all0 R216.1)
      refine own_go (T224.setTop (mkF m 222 #[.val (.int p0), .val (.int p1), .val (.int p2), .val (.int p3), .val (.int p4), .val (.int p5), .val (.ref b1), .val (.ref b17), .val (.int (3 : Int32)), .val (.ref b169), .val (.ref b176), .val (.ref r209), .unset] [(.ref r224)])) (fun t_ k_ => st224.trans k_) ?_
      refine own_go (T224.setTop (mkF m 224 #[.val (.int p0), .val (.int p1), .val (.int p2), .val (.int p3), .val (.int p4), .val (.int p5), .val (.ref b1), .val (.ref b17), .val (.int (3 : Int32)), .val (.ref b169), .val (.ref b176), .val (.ref r209), .val (.ref r224)] [])) (fun t_ k_ => XS.astore X224.here hx rfl (hb hby at_222) rfl rfl (l' := #[.val (.int p0), .val (.int p1), .val (.int p2), .val (.int p3), .val (.int p4), .val (.int p5), .val (.ref b1), .val (.ref b17), .val (.int (3 : Int32)), .val (.ref b169), .val (.ref b176), .val (.ref r209), .val (.ref r224)]) rfl k_) ?_
      refine own_go (T224.setTop (mkF m 226 #[.val (.int p0), .val (.int p1), .val (.int p2), .val (.int p3), .val (.int p4), .val (.int p5), .val (.ref b1), .val (.ref b17), .val (.int (3 : Int32)), .val (.ref b169), .val (.ref b176), .val (.ref r209), .val (.ref r224)] [(.ref r224)])) (fun t_ k_ => XS.aload X224.here hx rfl (hb hby at_224) rfl rfl k_) ?_
      refine own_go (T224.setTop (mkF m 229 #[.val (.int p0), .val (.int p1), .val (.int p2), .val (.int p3), .val (.int p4), .val (.int p5), .val (.ref b1), .val (.ref b17), .val (.int (3 : Int32)), .val (.ref b169), .val (.ref b176), .val (.ref r209), .val (.ref r224)] [])) (fun t_ k_ => XS.ifnullNo X224.here hx rfl (hb hby at_226) rfl k_) ?_
      refine own_go (T224.setTop (mkF m 231 #[.val (.int p0), .val (.int p1), .val (.int p2), .val (.int p3), .val (.int p4), .val (.int p5), .val (.ref b1), .val (.ref b17), .val (.int (3 : Int32)), .val (.ref b169), .val (.ref b176), .val (.ref r209), .val (.ref r224)] [(.ref r224)])) (fun t_ k_ => XS.aload X224.here hx rfl (hb hby at_229) rfl rfl k_) ?_
      refine own_go (T224.setTop (mkF m 233 #[.val (.int p0), .val (.int p1), .val (.int p2), .val (.int p3), .val (.int p4), .val (.int p5), .val (.ref b1), .val (.ref b17), .val (.int (3 : Int32)), .val (.ref b169), .val (.ref b176), .val (.ref r209), .val (.ref r224)] [(.int (3 : Int32)), (.ref r224)])) (fun t_ k_ => XS.iload X224.here hx rfl (hb hby at_231) rfl k_) ?_
      refine own_go (T224.setTop (mkF m 234 #[.val (.int p0), .val (.int p1), .val (.int p2), .val (.int p3), .val (.int p4), .val (.int p5), .val (.ref b1), .val (.ref b17), .val (.int (3 : Int32)), .val (.ref b169), .val (.ref b176), .val (.ref r209), .val (.ref r224)] [(.int p2), (.int (3 : Int32)), (.ref r224)])) (fun t_ k_ => XS.iloadN X224.here hx rfl (hb hby at_233) rfl k_) ?_
      refine own_go (T224.setTop (mkF m 235 #[.val (.int p0), .val (.int p1), .val (.int p2), .val (.int p3), .val (.int p4), .val (.int p5), .val (.ref b1), .val (.ref b17), .val (.int (3 : Int32)), .val (.ref b169), .val (.ref b176), .val (.ref r209), .val (.ref r224)] [(.int p3), (.int p2), (.int (3 : Int32)), (.ref r224)])) (fun t_ k_ => XS.iloadN X224.here hx rfl (hb hby at_234) rfl k_) ?_
      refine own_go (T224.setTop (mkF m 237 #[.val (.int p0), .val (.int p1), .val (.int p2), .val (.int p3), .val (.int p4), .val (.int p5), .val (.ref b1), .val (.ref b17), .val (.int (3 : Int32)), .val (.ref b169), .val (.ref b176), .val (.ref r209), .val (.ref r224)] [(.int p4), (.int p3), (.int p2), (.int (3 : Int32)), (.ref r224)])) (fun t_ k_ => XS.iload X224.here hx rfl (hb hby at_235) rfl k_) ?_
      refine own_go (T224.setTop (mkF m 239 #[.val (.int p0), .val (.int p1), .val (.int p2), .val (.int p3), .val (.int p4), .val (.int p5), .val (.ref b1), .val (.ref b17), .val (.int (3 : Int32)), .val (.ref b169), .val (.ref b176), .val (.ref r209), .val (.ref r224)] [(.int p5), (.int p4), (.int p3), (.int p2), (.int (3 : Int32)), (.ref r224)])) (fun t_ k_ => XS.iload X224.here hx rfl (hb hby at_237) rfl k_) ?_
      obtain ⟨_, _, ⟨T226, Lu226, ku226, nu226⟩, -, X226, ⟨Lc226, hQ226, lu226, yu226, zu226⟩, st226⟩ := Jvm.LawKit.callS X224 hx (y := (⟨"com/example/trailcaster/trailcaster/model/ParticipantObjectQueryPinLaw", "same", "([BIIIII)Z"⟩ : MethodName)) hown (mvT hZ (hw _ (List.mem_of_getElem? (i := 224) rfl))) (mvT hZ (hw _ (List.mem_of_getElem? (i := 225) rfl))) (mvT hZ (hw _ (List.mem_of_getElem? (i := 73) rfl))) (mvT hZ (hw _ (List.mem_of_getElem? (i := 226) rfl))) (by decide) (backOf (W := 0) (rm_same3 l Z a0 hw [] (r224) (k169) (p2) (p3) (p4) (p5) T224.heap O224 A224q) hZ (hw _ (List.mem_of_getElem? (i := 226) rfl)) (hw _ (List.mem_of_getElem? (i := 73) rfl)) (by decide) (by decide)) (g := (mkF m 239 #[.val (.int p0), .val (.int p1), .val (.int p2), .val (.int p3), .val (.int p4), .val (.int p5), .val (.ref b1), .val (.ref b17), .val (.int (3 : Int32)), .val (.ref b169), .val (.ref b176), .val (.ref r209), .val (.ref r224)] [(.int p5), (.int p4), (.int p3), (.int p2), (.int (3 : Int32)), (.ref r224)])) rfl (by rw [hml]; rfl) (argsL := [(.ref r224), (.int (3 : Int32)), (.int p2), (.int p3), (.int p4), (.int p5)]) (rest := []) (lenOf own_pd21 rfl) rfl (by show 2 * 0 + _ ≤ _; exact Nat.le_of_eq rfl) (hb hby at_239) (fun _ _ => ⟨rfl, rfl, (by decide : 36 + 0 ≤ _), (by decide : 386 + 0 ≤ _)⟩)
      dsimp only [Pt.U, Pt.locs, Pt.cells, Pt.slots] at X226 lu226 yu226 zu226 st226 hQ226
      subst lu226 yu226 zu226
      obtain ⟨rfl, N226q, e226⟩ := hQ226
      have N226 := Fr.app N224 N226q
      refine own_go (T226.setTop (mkF m 242 #[.val (.int p0), .val (.int p1), .val (.int p2), .val (.int p3), .val (.int p4), .val (.int p5), .val (.ref b1), .val (.ref b17), .val (.int (3 : Int32)), .val (.ref b169), .val (.ref b176), .val (.ref r209), .val (.ref r224)] [(.int (1 : Int32))])) (fun t_ k_ => st226 _ k_) ?_
      refine own_go (T226.setTop (mkF m 245 #[.val (.int p0), .val (.int p1), .val (.int p2), .val (.int p3), .val (.int p4), .val (.int p5), .val (.ref b1), .val (.ref b17), .val (.int (3 : Int32)), .val (.ref b169), .val (.ref b176), .val (.ref r209), .val (.ref r224)] [])) (fun t_ k_ => XS.ifNo X226.here hx rfl (hb hby at_242) rfl ((if0 _ _).trans (feq (by decide : ¬ ((1 : Int32) = (0 : Int32)))).1) k_) ?_
      refine own_go (T226.setTop (mkF m 246 #[.val (.int p0), .val (.int p1), .val (.int p2), .val (.int p3), .val (.int p4), .val (.int p5), .val (.ref b1), .val (.ref b17), .val (.int (3 : Int32)), .val (.ref b169), .val (.ref b176), .val (.ref r209), .val (.ref r224)] [(.int (1 : Int32))])) (fun t_ k_ => XS.iconst X226.here hx rfl (hb hby at_245) k_) ?_
      refine own_go (T226.setTop (mkF m 250 #[.val (.int p0), .val (.int p1), .val (.int p2), .val (.int p3), .val (.int p4), .val (.int p5), .val (.ref b1), .val (.ref b17), .val (.int (3 : Int32)), .val (.ref b169), .val (.ref b176), .val (.ref r209), .val (.ref r224)] [(.int (1 : Int32))])) (fun t_ k_ => XS.goto X226.here hx rfl (pc0 := 246) (pc' := 250) rfl (hb hby at_246) (by decide) (by decide) k_) ?_
      obtain ⟨fs, hr, hrun, hended, hRW⟩ := X226.leaveW hS (by rw [show T226.heap = T224.heap from e226]; exact (Nat.le_trans (Nat.le_trans (Nat.le_trans (Nat.le_trans (Nat.le_trans (Nat.le_trans (Nat.le_trans (Nat.le_trans (Nat.le_refl _) K198q.1) K200q.1) K202q.1) K209q.1) K212q.1) K214q.1) K216q.1) K224q.1)) (v := some (.int (nar .boolean (1 : Int32)))) (fun h => by rw [Bd.returns] at h; cases h)
      refine ⟨_, _, retN X226 hx (t := .boolean) Bd.returns (by simp) (hb hby at_250) hr, hrun, hended, _, _, rfl, ?_, hRW.1, hRW.2.1, hRW.2.2.1, hRW.2.2.2.mono (by decide) (by decide)⟩
      show Q_law Z p0 p1 p2 p3 p4 p5 cs0 a_EM a_DF m_A m_L m_R h0 _ T226.heap _
      exact ⟨rfl, N226, trivial⟩
    ·
      rw [hl4]
      refine own_go (T18.setTop (mkF m 81 #[.val (.int p0), .val (.int p1), .val (.int p2), .val (.int p3), .val (.int p4), .val (.int p5), .val (.ref b1), .val (.ref b17), .val (.int (4 : Int32)), .unset, .unset, .unset, .unset] [])) (fun t_ k_ => XS.istore X18.here hx rfl (hb hby at_79) rfl (l' := #[.val (.int p0), .val (.int p1), .val (.int p2), .val (.int p3), .val (.int p4), .val (.int p5), .val (.ref b1), .val (.ref b17), .val (.int (4 : Int32)), .unset, .unset, .unset, .unset]) rfl k_) ?_
      refine own_go (T18.setTop (mkF m 83 #[.val (.int p0), .val (.int p1), .val (.int p2), .val (.int p3), .val (.int p4), .val (.int p5), .val (.ref b1), .val (.ref b17), .val (.int (4 : Int32)), .unset, .unset, .unset, .unset] [(.int (4 : Int32))])) (fun t_ k_ => XS.iload X18.here hx rfl (hb hby at_81) rfl k_) ?_
      obtain ⟨T227, h227, k227, X227, e227, E227, A227, Xa227, st227⟩ := newPE X18 hx hZ (hw _ (List.mem_of_getElem? (i := 6) rfl)) rfl (g := (mkF m 83 #[.val (.int p0), .val (.int p1), .val (.int p2), .val (.int p3), .val (.int p4), .val (.int p5), .val (.ref b1), .val (.ref b17), .val (.int (4 : Int32)), .unset, .unset, .unset, .unset] [(.int (4 : Int32))])) rfl (hb hby at_83) rfl (by decide) (cap := 4) (by decide) (by decide) (by decide) (by decide) (ad := "[B") (by decide)
      obtain ⟨b227, g227⟩ : ∃ z, z = T18.heap.size := ⟨_, rfl⟩
      rw [← g227] at A227 st227 Xa227
      have ge_b227 : Z.heap.size ≤ b227 := Nat.le_trans O18.1 (Nat.le_of_eq g227.symm)
      have sz_b227 : h0.size ≤ b227 := Nat.le_trans KK18.1 (Nat.le_of_eq g227.symm)
      have R227 := R18.trans (CHr.ext E227 R18.1)
      have Sf227 := Safe.ext (x := b227) E227 R18.1 (Safe.new (Nat.le_of_eq g227.symm))
      have K227 : Keep h0 h227 [] := KK18.ext E227
      have O227 := own_ext O18 E227
      have V227 : Arv Z h227 b227 k227 .byte (4 : Int32) [(.int (0 : Int32)), (.int (0 : Int32)), (.int (0 : Int32)), (.int (0 : Int32))] (.int (0 : Int32)) := (Arv.new A227 (by decide)).pad (pad_rep [] (.int (0 : Int32)) 4)
      refine own_go (T227.setTop (mkF m 85 #[.val (.int p0), .val (.int p1), .val (.int p2), .val (.int p3), .val (.int p4), .val (.int p5), .val (.ref b1), .val (.ref b17), .val (.int (4 : Int32)), .unset, .unset, .unset, .unset] [(.ref b227)])) (fun t_ k_ => st227 _ k_) ?_
      refine own_go (T227.setTop (mkF m 87 #[.val (.int p0), .val (.int p1), .val (.int p2), .val (.int p3), .val (.int p4), .val (.int p5), .val (.ref b1), .val (.ref b17), .val (.int (4 : Int32)), .val (.ref b227), .unset, .unset, .unset] [])) (fun t_ k_ => XS.astore X227.here hx rfl (hb hby at_85) rfl rfl (l' := #[.val (.int p0), .val (.int p1), .val (.int p2), .val (.int p3), .val (.int p4), .val (.int p5), .val (.ref b1), .val (.ref b17), .val (.int (4 : Int32)), .val (.ref b227), .unset, .unset, .unset]) rfl k_) ?_
      refine own_go (T227.setTop (mkF m 89 #[.val (.int p0), .val (.int p1), .val (.int p2), .val (.int p3), .val (.int p4), .val (.int p5), .val (.ref b1), .val (.ref b17), .val (.int (4 : Int32)), .val (.ref b227), .unset, .unset, .unset] [(.ref b227)])) (fun t_ k_ => XS.aload X227.here hx rfl (hb hby at_87) rfl rfl k_) ?_
      refine own_go (T227.setTop (mkF m 90 #[.val (.int p0), .val (.int p1), .val (.int p2), .val (.int p3), .val (.int p4), .val (.int p5), .val (.ref b1), .val (.ref b17), .val (.int (4 : Int32)), .val (.ref b227), .unset, .unset, .unset] [(.int (0 : Int32)), (.ref b227)])) (fun t_ k_ => XS.iconst X227.here hx rfl (hb hby at_89) k_) ?_
      refine own_go (T227.setTop (mkF m 91 #[.val (.int p0), .val (.int p1), .val (.int p2), .val (.int p3), .val (.int p4), .val (.int p5), .val (.ref b1), .val (.ref b17), .val (.int (4 : Int32)), .val (.ref b227), .unset, .unset, .unset] [(.int p2), (.int (0 : Int32)), (.ref b227)])) (fun t_ k_ => XS.iloadN X227.here hx rfl (hb hby at_90) rfl k_) ?_
      obtain ⟨_, _, ⟨T228, Lu228, ku228, nu228⟩, -, X228, ⟨Lc228, hQ228, lu228, yu228, zu228⟩, st228⟩ := Jvm.LawKit.callS X227 hx (y := (⟨"com/example/trailcaster/trailcaster/model/ParticipantObjectQueryPinLaw", "set", "([BII)V"⟩ : MethodName)) hown (mvT hZ (hw _ (List.mem_of_getElem? (i := 71) rfl))) (mvT hZ (hw _ (List.mem_of_getElem? (i := 72) rfl))) (mvT hZ (hw _ (List.mem_of_getElem? (i := 73) rfl))) (mvT hZ (hw _ (List.mem_of_getElem? (i := 74) rfl))) (by decide) (backOf (W := 0) (rm_seti l Z a0 hw [] (b227) (k227) ((4 : Int32)) ([(.int (0 : Int32)), (.int (0 : Int32)), (.int (0 : Int32)), (.int (0 : Int32))]) ((0 : Int32)) (0) (p2) h227 O227 V227 (by decide) (by decide) rfl (Nat.le_of_ble_eq_true rfl) ge_b227) hZ (hw _ (List.mem_of_getElem? (i := 74) rfl)) (hw _ (List.mem_of_getElem? (i := 73) rfl)) (by decide) (by decide)) (g := (mkF m 91 #[.val (.int p0), .val (.int p1), .val (.int p2), .val (.int p3), .val (.int p4), .val (.int p5), .val (.ref b1), .val (.ref b17), .val (.int (4 : Int32)), .val (.ref b227), .unset, .unset, .unset] [(.int p2), (.int (0 : Int32)), (.ref b227)])) rfl (by rw [hml]; rfl) (argsL := [(.ref b227), (.int (0 : Int32)), (.int p2)]) (rest := []) (lenOf own_pd17 rfl) rfl (by show 2 * 0 + _ ≤ _; exact Nat.le_of_eq rfl) (hb hby at_91) (fun _ _ => ⟨rfl, e227, (by decide : 15 + 0 ≤ _), (by decide : 166 + 0 ≤ _)⟩)
      dsimp only [Pt.U, Pt.locs, Pt.cells, Pt.slots] at X228 lu228 yu228 zu228 st228 hQ228
      subst lu228 yu228 zu228
      obtain ⟨rfl, N228q, K228q, A228q⟩ := hQ228
      have N228 := Fr.app N18 N228q
      have A228r : Arv Z T228.heap b227 k227 .byte (4 : Int32) [(.int (nar .byte (p2.toInt8.toInt32))), (.int (0 : Int32)), (.int (0 : Int32)), (.int (0 : Int32))] (.int 0) := A228q
      have O228 := own_extK O227 K228q (allS ge_b227 all0)
      have KK228 : Keep h0 T228.heap [] := K227.trans K228q (allS (Or.inr sz_b227) all0)
      have R228 := R227.trans (CHr.keep K228q (allS Sf227 all0) R227.1)
      refine own_go (T228.setTop (mkF m 94 #[.val (.int p0), .val (.int p1), .val (.int p2), .val (.int p3), .val (.int p4), .val (.int p5), .val (.ref b1), .val (.ref b17), .val (.int (4 : Int32)), .val (.ref b227), .unset, .unset, .unset] [])) (fun t_ k_ => st228 _ k_) ?_
      refine own_go (T228.setTop (mkF m 96 #[.val (.int p0), .val (.int p1), .val (.int p2), .val (.int p3), .val (.int p4), .val (.int p5), .val (.ref b1), .val (.ref b17), .val (.int (4 : Int32)), .val (.ref b227), .unset, .unset, .unset] [(.ref b227)])) (fun t_ k_ => XS.aload X228.here hx rfl (hb hby at_94) rfl rfl k_) ?_
      refine own_go (T228.setTop (mkF m 97 #[.val (.int p0), .val (.int p1), .val (.int p2), .val (.int p3), .val (.int p4), .val (.int p5), .val (.ref b1), .val (.ref b17), .val (.int (4 : Int32)), .val (.ref b227), .unset, .unset, .unset] [(.int (1 : Int32)), (.ref b227)])) (fun t_ k_ => XS.iconst X228.here hx rfl (hb hby at_96) k_) ?_
      refine own_go (T228.setTop (mkF m 98 #[.val (.int p0), .val (.int p1), .val (.int p2), .val (.int p3), .val (.int p4), .val (.int p5), .val (.ref b1), .val (.ref b17), .val (.int (4 : Int32)), .val (.ref b227), .unset, .unset, .unset] [(.int p3), (.int (1 : Int32)), (.ref b227)])) (fun t_ k_ => XS.iloadN X228.here hx rfl (hb hby at_97) rfl k_) ?_
      obtain ⟨_, _, ⟨T229, Lu229, ku229, nu229⟩, -, X229, ⟨Lc229, hQ229, lu229, yu229, zu229⟩, st229⟩ := Jvm.LawKit.callS X228 hx (y := (⟨"com/example/trailcaster/trailcaster/model/ParticipantObjectQueryPinLaw", "set", "([BII)V"⟩ : MethodName)) hown (mvT hZ (hw _ (List.mem_of_getElem? (i := 71) rfl))) (mvT hZ (hw _ (List.mem_of_getElem? (i := 72) rfl))) (mvT hZ (hw _ (List.mem_of_getElem? (i := 73) rfl))) (mvT hZ (hw _ (List.mem_of_getElem? (i := 74) rfl))) (by decide) (backOf (W := 0) (rm_seti l Z a0 hw [] (b227) (k227) ((4 : Int32)) ([(.int (nar .byte (p2.toInt8.toInt32))), (.int (0 : Int32)), (.int (0 : Int32)), (.int (0 : Int32))]) ((1 : Int32)) (1) (p3) T228.heap O228 A228r (by decide) (by decide) rfl (Nat.le_of_ble_eq_true rfl) ge_b227) hZ (hw _ (List.mem_of_getElem? (i := 74) rfl)) (hw _ (List.mem_of_getElem? (i := 73) rfl)) (by decide) (by decide)) (g := (mkF m 98 #[.val (.int p0), .val (.int p1), .val (.int p2), .val (.int p3), .val (.int p4), .val (.int p5), .val (.ref b1), .val (.ref b17), .val (.int (4 : Int32)), .val (.ref b227), .unset, .unset, .unset] [(.int p3), (.int (1 : Int32)), (.ref b227)])) rfl (by rw [hml]; rfl) (argsL := [(.ref b227), (.int (1 : Int32)), (.int p3)]) (rest := []) (lenOf own_pd17 rfl) rfl (by show 2 * 0 + _ ≤ _; exact Nat.le_of_eq rfl) (hb hby at_98) (fun _ _ => ⟨rfl, rfl, (by decide : 15 + 0 ≤ _), (by decide : 166 + 0 ≤ _)⟩)
      dsimp only [Pt.U, Pt.locs, Pt.cells, Pt.slots] at X229 lu229 yu229 zu229 st229 hQ229
      subst lu229 yu229 zu229
      obtain ⟨rfl, N229q, K229q, A229q⟩ := hQ229
      have N229 := Fr.app N228 N229q
      have A229r : Arv Z T229.heap b227 k227 .byte (4 : Int32) [(.int (nar .byte (p2.toInt8.toInt32))), (.int (nar .byte (p3.toInt8.toInt32))), (.int (0 : Int32)), (.int (0 : Int32))] (.int 0) := A229q
      have O229 := own_extK O228 K229q (allS ge_b227 all0)
      have KK229 : Keep h0 T229.heap [] := KK228.trans K229q (allS (Or.inr sz_b227) all0)
      have Fz230 := (Safe.keep K228q (allS Sf227 all0) R227.1 Sf227)
      have R229 := R228.trans (CHr.keep K229q (allS Fz230 all0) R228.1)
      refine own_go (T229.setTop (mkF m 101 #[.val (.int p0), .val (.int p1), .val (.int p2), .val (.int p3), .val (.int p4), .val (.int p5), .val (.ref b1), .val (.ref b17), .val (.int (4 : Int32)), .val (.ref b227), .unset, .unset, .unset] [])) (fun t_ k_ => st229 _ k_) ?_
      refine own_go (T229.setTop (mkF m 103 #[.val (.int p0), .val (.int p1), .val (.int p2), .val (.int p3), .val (.int p4), .val (.int p5), .val (.ref b1), .val (.ref b17), .val (.int (4 : Int32)), .val (.ref b227), .unset, .unset, .unset] [(.ref b227)])) (fun t_ k_ => XS.aload X229.here hx rfl (hb hby at_101) rfl rfl k_) ?_
      refine own_go (T229.setTop (mkF m 104 #[.val (.int p0), .val (.int p1), .val (.int p2), .val (.int p3), .val (.int p4), .val (.int p5), .val (.ref b1), .val (.ref b17), .val (.int (4 : Int32)), .val (.ref b227), .unset, .unset, .unset] [(.int (2 : Int32)), (.ref b227)])) (fun t_ k_ => XS.iconst X229.here hx rfl (hb hby at_103) k_) ?_
      refine own_go (T229.setTop (mkF m 106 #[.val (.int p0), .val (.int p1), .val (.int p2), .val (.int p3), .val (.int p4), .val (.int p5), .val (.ref b1), .val (.ref b17), .val (.int (4 : Int32)), .val (.ref b227), .unset, .unset, .unset] [(.int p4), (.int (2 : Int32)), (.ref b227)])) (fun t_ k_ => XS.iload X229.here hx rfl (hb hby at_104) rfl k_) ?_
      obtain ⟨_, _, ⟨T231, Lu231, ku231, nu231⟩, -, X231, ⟨Lc231, hQ231, lu231, yu231, zu231⟩, st231⟩ := Jvm.LawKit.callS X229 hx (y := (⟨"com/example/trailcaster/trailcaster/model/ParticipantObjectQueryPinLaw", "set", "([BII)V"⟩ : MethodName)) hown (mvT hZ (hw _ (List.mem_of_getElem? (i := 71) rfl))) (mvT hZ (hw _ (List.mem_of_getElem? (i := 72) rfl))) (mvT hZ (hw _ (List.mem_of_getElem? (i := 73) rfl))) (mvT hZ (hw _ (List.mem_of_getElem? (i := 74) rfl))) (by decide) (backOf (W := 0) (rm_seti l Z a0 hw [] (b227) (k227) ((4 : Int32)) ([(.int (nar .byte (p2.toInt8.toInt32))), (.int (nar .byte (p3.toInt8.toInt32))), (.int (0 : Int32)), (.int (0 : Int32))]) ((2 : Int32)) (2) (p4) T229.heap O229 A229r (by decide) (by decide) rfl (Nat.le_of_ble_eq_true rfl) ge_b227) hZ (hw _ (List.mem_of_getElem? (i := 74) rfl)) (hw _ (List.mem_of_getElem? (i := 73) rfl)) (by decide) (by decide)) (g := (mkF m 106 #[.val (.int p0), .val (.int p1), .val (.int p2), .val (.int p3), .val (.int p4), .val (.int p5), .val (.ref b1), .val (.ref b17), .val (.int (4 : Int32)), .val (.ref b227), .unset, .unset, .unset] [(.int p4), (.int (2 : Int32)), (.ref b227)])) rfl (by rw [hml]; rfl) (argsL := [(.ref b227), (.int (2 : Int32)), (.int p4)]) (rest := []) (lenOf own_pd17 rfl) rfl (by show 2 * 0 + _ ≤ _; exact Nat.le_of_eq rfl) (hb hby at_106) (fun _ _ => ⟨rfl, rfl, (by decide : 15 + 0 ≤ _), (by decide : 166 + 0 ≤ _)⟩)
      dsimp only [Pt.U, Pt.locs, Pt.cells, Pt.slots] at X231 lu231 yu231 zu231 st231 hQ231
      subst lu231 yu231 zu231
      obtain ⟨rfl, N231q, K231q, A231q⟩ := hQ231
      have N231 := Fr.app N229 N231q
      have A231r : Arv Z T231.heap b227 k227 .byte (4 : Int32) [(.int (nar .byte (p2.toInt8.toInt32))), (.int (nar .byte (p3.toInt8.toInt32))), (.int (nar .byte (p4.toInt8.toInt32))), (.int (0 : Int32))] (.int 0) := A231q
      have O231 := own_extK O229 K231q (allS ge_b227 all0)
      have KK231 : Keep h0 T231.heap [] := KK229.trans K231q (allS (Or.inr sz_b227) all0)
      have Fz232 := (Safe.keep K229q (allS Fz230 all0) R228.1 Fz230)
      have R231 := R229.trans (CHr.keep K231q (allS Fz232 all0) R229.1)
      refine own_go (T231.setTop (mkF m 109 #[.val (.int p0), .val (.int p1), .val (.int p2), .val (.int p3), .val (.int p4), .val (.int p5), .val (.ref b1), .val (.ref b17), .val (.int (4 : Int32)), .val (.ref b227), .unset, .unset, .unset] [])) (fun t_ k_ => st231 _ k_) ?_
      refine own_go (T231.setTop (mkF m 111 #[.val (.int p0), .val (.int p1), .val (.int p2), .val (.int p3), .val (.int p4), .val (.int p5), .val (.ref b1), .val (.ref b17), .val (.int (4 : Int32)), .val (.ref b227), .unset, .unset, .unset] [(.ref b227)])) (fun t_ k_ => XS.aload X231.here hx rfl (hb hby at_109) rfl rfl k_) ?_
      refine own_go (T231.setTop (mkF m 112 #[.val (.int p0), .val (.int p1), .val (.int p2), .val (.int p3), .val (.int p4), .val (.int p5), .val (.ref b1), .val (.ref b17), .val (.int (4 : Int32)), .val (.ref b227), .unset, .unset, .unset] [(.int (3 : Int32)), (.ref b227)])) (fun t_ k_ => XS.iconst X231.here hx rfl (hb hby at_111) k_) ?_
      refine own_go (T231.setTop (mkF m 114 #[.val (.int p0), .val (.int p1), .val (.int p2), .val (.int p3), .val (.int p4), .val (.int p5), .val (.ref b1), .val (.ref b17), .val (.int (4 : Int32)), .val (.ref b227), .unset, .unset, .unset] [(.int p5), (.int (3 : Int32)), (.ref b227)])) (fun t_ k_ => XS.iload X231.here hx rfl (hb hby at_112) rfl k_) ?_
      obtain ⟨_, _, ⟨T233, Lu233, ku233, nu233⟩, -, X233, ⟨Lc233, hQ233, lu233, yu233, zu233⟩, st233⟩ := Jvm.LawKit.callS X231 hx (y := (⟨"com/example/trailcaster/trailcaster/model/ParticipantObjectQueryPinLaw", "set", "([BII)V"⟩ : MethodName)) hown (mvT hZ (hw _ (List.mem_of_getElem? (i := 71) rfl))) (mvT hZ (hw _ (List.mem_of_getElem? (i := 72) rfl))) (mvT hZ (hw _ (List.mem_of_getElem? (i := 73) rfl))) (mvT hZ (hw _ (List.mem_of_getElem? (i := 74) rfl))) (by decide) (backOf (W := 0) (rm_seti l Z a0 hw [] (b227) (k227) ((4 : Int32)) ([(.int (nar .byte (p2.toInt8.toInt32))), (.int (nar .byte (p3.toInt8.toInt32))), (.int (nar .byte (p4.toInt8.toInt32))), (.int (0 : Int32))]) ((3 : Int32)) (3) (p5) T231.heap O231 A231r (by decide) (by decide) rfl (Nat.le_of_ble_eq_true rfl) ge_b227) hZ (hw _ (List.mem_of_getElem? (i := 74) rfl)) (hw _ (List.mem_of_getElem? (i := 73) rfl)) (by decide) (by decide)) (g := (mkF m 114 #[.val (.int p0), .val (.int p1), .val (.int p2), .val (.int p3), .val (.int p4), .val (.int p5), .val (.ref b1), .val (.ref b17), .val (.int (4 : Int32)), .val (.ref b227), .unset, .unset, .unset] [(.int p5), (.int (3 : Int32)), (.ref b227)])) rfl (by rw [hml]; rfl) (argsL := [(.ref b227), (.int (3 : Int32)), (.int p5)]) (rest := []) (lenOf own_pd17 rfl) rfl (by show 2 * 0 + _ ≤ _; exact Nat.le_of_eq rfl) (hb hby at_114) (fun _ _ => ⟨rfl, rfl, (by decide : 15 + 0 ≤ _), (by decide : 166 + 0 ≤ _)⟩)
      dsimp only [Pt.U, Pt.locs, Pt.cells, Pt.slots] at X233 lu233 yu233 zu233 st233 hQ233
      subst lu233 yu233 zu233
      obtain ⟨rfl, N233q, K233q, A233q⟩ := hQ233
      have N233 := Fr.app N231 N233q
      have A233r : Arv Z T233.heap b227 k227 .byte (4 : Int32) [(.int (nar .byte (p2.toInt8.toInt32))), (.int (nar .byte (p3.toInt8.toInt32))), (.int (nar .byte (p4.toInt8.toInt32))), (.int (nar .byte (p5.toInt8.toInt32)))] (.int 0) := A233q
      have O233 := own_extK O231 K233q (allS ge_b227 all0)
      have KK233 : Keep h0 T233.heap [] := KK231.trans K233q (allS (Or.inr sz_b227) all0)
      have Fz234 := (Safe.keep K231q (allS Fz232 all0) R229.1 Fz232)
      have R233 := R231.trans (CHr.keep K233q (allS Fz234 all0) R231.1)
      refine own_go (T233.setTop (mkF m 117 #[.val (.int p0), .val (.int p1), .val (.int p2), .val (.int p3), .val (.int p4), .val (.int p5), .val (.ref b1), .val (.ref b17), .val (.int (4 : Int32)), .val (.ref b227), .unset, .unset, .unset] [])) (fun t_ k_ => st233 _ k_) ?_
      obtain ⟨T235, h235, X235, e235, E235, A235, D235, U235, st235⟩ := newO X233 hx hZ hown (hw _ (List.mem_of_getElem? (i := 75) rfl)) (hw _ (List.mem_of_getElem? (i := 76) rfl)) (hw _ (List.mem_of_getElem? (i := 77) rfl)) rfl (g := (mkF m 117 #[.val (.int p0), .val (.int p1), .val (.int p2), .val (.int p3), .val (.int p4), .val (.int p5), .val (.ref b1), .val (.ref b17), .val (.int (4 : Int32)), .val (.ref b227), .unset, .unset, .unset] [])) rfl (hb hby at_117) (by decide) (by decide)
      obtain ⟨b235, g235⟩ : ∃ z, z = T233.heap.size := ⟨_, rfl⟩
      rw [← g235] at A235 D235 U235 st235
      have ge_b235 : Z.heap.size ≤ b235 := Nat.le_trans O233.1 (Nat.le_of_eq g235.symm)
      have sz_b235 : h0.size ≤ b235 := Nat.le_trans KK233.1 (Nat.le_of_eq g235.symm)
      have R235 := R233.trans (CHr.ext E235 R233.1)
      have Sf235 := Safe.ext (x := b235) E235 R233.1 (Safe.new (Nat.le_of_eq g235.symm))
      have K235 : Keep h0 h235 [] := KK233.ext E235
      have O235 := own_ext O233 E235
      have Fid_235 : Fld Z h235 b235 "com/example/trailcaster/trailcaster/model/ParticipantObject" "id" "Ljava/lang/String;" .null := D235 (Or.inr (hw _ (List.mem_of_getElem? (i := 201) rfl))) (ty := (.object "java/lang/String")) (by decide)
      have FtypeCode_235 : Fld Z h235 b235 "com/example/trailcaster/trailcaster/model/ParticipantObject" "typeCode" "Ljava/lang/String;" .null := D235 (Or.inr (hw _ (List.mem_of_getElem? (i := 203) rfl))) (ty := (.object "java/lang/String")) (by decide)
      have FtypeCodeRole_235 : Fld Z h235 b235 "com/example/trailcaster/trailcaster/model/ParticipantObject" "typeCodeRole" "Ljava/lang/String;" .null := D235 (Or.inr (hw _ (List.mem_of_getElem? (i := 205) rfl))) (ty := (.object "java/lang/String")) (by decide)
      have FidTypeCode_235 : Fld Z h235 b235 "com/example/trailcaster/trailcaster/model/ParticipantObject" "idTypeCode" "Lcom/example/trailcaster/trailcaster/model/CodedValue;" .null := D235 (Or.inr (hw _ (List.mem_of_getElem? (i := 207) rfl))) (ty := (.object "com/example/trailcaster/trailcaster/model/CodedValue")) (by decide)
      have Fname_235 : Fld Z h235 b235 "com/example/trailcaster/trailcaster/model/ParticipantObject" "name" "Ljava/lang/String;" .null := D235 (Or.inr (hw _ (List.mem_of_getElem? (i := 209) rfl))) (ty := (.object "java/lang/String")) (by decide)
      have Fquery_235 : Fld Z h235 b235 "com/example/trailcaster/trailcaster/model/ParticipantObject" "query" "[B" .null := D235 (Or.inr (hw _ (List.mem_of_getElem? (i := 211) rfl))) (ty := (.array .byte)) (by decide)
      have Fdetails_235 : Fld Z h235 b235 "com/example/trailcaster/trailcaster/model/ParticipantObject" "details" "Ljava/util/List;" .null := D235 (Or.inr (hw _ (List.mem_of_getElem? (i := 213) rfl))) (ty := (.object "java/util/List")) (by decide)
      have Fdescription_235 : Fld Z h235 b235 "com/example/trailcaster/trailcaster/model/ParticipantObject" "description" "Lcom/example/trailcaster/trailcaster/model/DicomObjectDescription;" .null := D235 (Or.inr (hw _ (List.mem_of_getElem? (i := 215) rfl))) (ty := (.object "com/example/trailcaster/trailcaster/model/DicomObjectDescription")) (by decide)
      refine own_go (T235.setTop (mkF m 120 #[.val (.int p0), .val (.int p1), .val (.int p2), .val (.int p3), .val (.int p4), .val (.int p5), .val (.ref b1), .val (.ref b17), .val (.int (4 : Int32)), .val (.ref b227), .unset, .unset, .unset] [(.ref b235)])) (fun t_ k_ => st235 _ k_) ?_
      refine own_go (T235.setTop (mkF m 121 #[.val (.int p0), .val (.int p1), .val (.int p2), .val (.int p3), .val (.int p4), .val (.int p5), .val (.ref b1), .val (.ref b17), .val (.int (4 : Int32)), .val (.ref b227), .unset, .unset, .unset] [(.ref b235), (.ref b235)])) (fun t_ k_ => XS.dup X235.here hx rfl (hb hby at_120) rfl rfl k_) ?_
      obtain ⟨a236, T236, h236, k236, t236, kb236, X236, e236, E236, hS, hk, hZ, hown, A236, C236, V236, B236, lt236, ltb236, CC236, Li236, ne236, st236⟩ := ldcCH (EL := consts_1) X235 hx hZ hown (hw _ (List.mem_of_getElem? (i := 78) rfl)) (fun d hd => hw d (own_sA d hd)) e235 hS (Nat.le_trans (Nat.le_trans (Nat.le_trans (Nat.le_trans (Nat.le_trans (Nat.le_trans (Nat.le_trans (Nat.le_trans (Nat.le_refl _) E17.1) K18q.1) E227.1) K228q.1) K229q.1) K231q.1) K233q.1) E235.1) hEW (List.mem_of_getElem? (i := 11) rfl) R235.1 (vs := (([105] : List Int32).map (fun c => c.toInt8.toInt32)).map Value.int) (z := 1) (by exact ⟨by decide, by rfl⟩) (by decide) (by rfl) (g := (mkF m 121 #[.val (.int p0), .val (.int p1), .val (.int p2), .val (.int p3), .val (.int p4), .val (.int p5), .val (.ref b1), .val (.ref b17), .val (.int (4 : Int32)), .val (.ref b227), .unset, .unset, .unset] [(.ref b235), (.ref b235)])) rfl (hb hby at_121) (n := 4) (by decide) (by decide) (by decide) (by decide)
      have K236 : Keep h0 h236 [] := K235.ext E236
      have O236 := own_ext O235 E236
      have R236 := R235.trans CC236
      refine own_go (T236.setTop (mkF m 123 #[.val (.int p0), .val (.int p1), .val (.int p2), .val (.int p3), .val (.int p4), .val (.int p5), .val (.ref b1), .val (.ref b17), .val (.int (4 : Int32)), .val (.ref b227), .unset, .unset, .unset] [(.ref a236), (.ref b235), (.ref b235)])) (fun t_ k_ => st236 _ k_) ?_
      obtain ⟨a237, T237, h237, k237, t237, kb237, X237, e237, E237, hS, hk, hZ, hown, A237, C237, V237, B237, lt237, ltb237, CC237, Li237, ne237, st237⟩ := ldcCH (EL := consts_1) X236 hx hZ hown (hw _ (List.mem_of_getElem? (i := 79) rfl)) (fun d hd => hw d (own_sA d hd)) e236 hS hk hEW (List.mem_of_getElem? (i := 12) rfl) R236.1 (vs := (([116] : List Int32).map (fun c => c.toInt8.toInt32)).map Value.int) (z := 1) (by exact ⟨by decide, by rfl⟩) (by decide) (by rfl) (g := (mkF m 123 #[.val (.int p0), .val (.int p1), .val (.int p2), .val (.int p3), .val (.int p4), .val (.int p5), .val (.ref b1), .val (.ref b17), .val (.int (4 : Int32)), .val (.ref b227), .unset, .unset, .unset] [(.ref a236), (.ref b235), (.ref b235)])) rfl (hb hby at_123) (n := 4) (by decide) (by decide) (by decide) (by decide)
      have K237 : Keep h0 h237 [] := K236.ext E237
      have O237 := own_ext O236 E237
      have R237 := R236.trans CC237
      refine own_go (T237.setTop (mkF m 125 #[.val (.int p0), .val (.int p1), .val (.int p2), .val (.int p3), .val (.int p4), .val (.int p5), .val (.ref b1), .val (.ref b17), .val (.int (4 : Int32)), .val (.ref b227), .unset, .unset, .unset] [(.ref a237), (.ref a236), (.ref b235), (.ref b235)])) (fun t_ k_ => st237 _ k_) ?_
      refine own_go (T237.setTop (mkF m 126 #[.val (.int p0), .val (.int p1), .val (.int p2), .val (.int p3), .val (.int p4), .val (.int p5), .val (.ref b1), .val (.ref b17), .val (.int (4 : Int32)), .val (.ref b227), .unset, .unset, .unset] [.null, (.ref a237), (.ref a236), (.ref b235), (.ref b235)])) (fun t_ k_ => XS.aconstNull X237.here hx rfl (hb hby at_125) k_) ?_
      refine own_go (T237.setTop (mkF m 128 #[.val (.int p0), .val (.int p1), .val (.int p2), .val (.int p3), .val (.int p4), .val (.int p5), .val (.ref b1), .val (.ref b17), .val (.int (4 : Int32)), .val (.ref b227), .unset, .unset, .unset] [(.ref b1), .null, (.ref a237), (.ref a236), (.ref b235), (.ref b235)])) (fun t_ k_ => XS.aload X237.here hx rfl (hb hby at_126) rfl rfl k_) ?_
      refine own_go (T237.setTop (mkF m 129 #[.val (.int p0), .val (.int p1), .val (.int p2), .val (.int p3), .val (.int p4), .val (.int p5), .val (.ref b1), .val (.ref b17), .val (.int (4 : Int32)), .val (.ref b227), .unset, .unset, .unset] [.null, (.ref b1), .null, (.ref a237), (.ref a236), (.ref b235), (.ref b235)])) (fun t_ k_ => XS.aconstNull X237.here hx rfl (hb hby at_128) k_) ?_
      refine own_go (T237.setTop (mkF m 131 #[.val (.int p0), .val (.int p1), .val (.int p2), .val (.int p3), .val (.int p4), .val (.int p5), .val (.ref b1), .val (.ref b17), .val (.int (4 : Int32)), .val (.ref b227), .unset, .unset, .unset] [(.ref b227), .null, (.ref b1), .null, (.ref a237), (.ref a236), (.ref b235), (.ref b235)])) (fun t_ k_ => XS.aload X237.here hx rfl (hb hby at_129) rfl rfl k_) ?_
      refine own_go (T237.setTop (mkF m 133 #[.val (.int p0), .val (.int p1), .val (.int p2), .val (.int p3), .val (.int p4), .val (.int p5), .val (.ref b1), .val (.ref b17), .val (.int (4 : Int32)), .val (.ref b227), .unset, .unset, .unset] [(.ref b17), (.ref b227), .null, (.ref b1), .null, (.ref a237), (.ref a236), (.ref b235), (.ref b235)])) (fun t_ k_ => XS.aload X237.here hx rfl (hb hby at_131) rfl rfl k_) ?_
      refine own_go (T237.setTop (mkF m 134 #[.val (.int p0), .val (.int p1), .val (.int p2), .val (.int p3), .val (.int p4), .val (.int p5), .val (.ref b1), .val (.ref b17), .val (.int (4 : Int32)), .val (.ref b227), .unset, .unset, .unset] [.null, (.ref b17), (.ref b227), .null, (.ref b1), .null, (.ref a237), (.ref a236), (.ref b235), (.ref b235)])) (fun t_ k_ => XS.aconstNull X237.here hx rfl (hb hby at_133) k_) ?_
      have Fz238 := ((A235.ext E236).ext E237)
      have Fz239 := ((Fid_235.ext E236).ext E237)
      have Fz240 := ((FtypeCode_235.ext E236).ext E237)
      have Fz241 := ((FtypeCodeRole_235.ext E236).ext E237)
      have Fz242 := ((FidTypeCode_235.ext E236).ext E237)
      have Fz243 := ((Fname_235.ext E236).ext E237)
      have Fz244 := ((Fquery_235.ext E236).ext E237)
      have Fz245 := ((Fdetails_235.ext E236).ext E237)
      have Fz246 := ((Fdescription_235.ext E236).ext E237)
      have Fz247 := ((((((((X18q.ext E227).keep K228q).keep K229q).keep K231q).keep K233q).ext E235).ext E236).ext E237)
      have Nz248 : b17 ≠ b227 := (Nat.ne_of_lt (Nat.lt_of_lt_of_le X18q.lt (Nat.le_of_eq g227.symm)))
      have Fz249 := ((((((((M18q.ext E227).keep K228q (ninS Nz248 nin0)).keep K229q (ninS Nz248 nin0)).keep K231q (ninS Nz248 nin0)).keep K233q (ninS Nz248 nin0)).ext E235).ext E236).ext E237)
      have Fz250 := ((((((((S18q.ext E227).keep K228q (ninS Nz248 nin0)).keep K229q (ninS Nz248 nin0)).keep K231q (ninS Nz248 nin0)).keep K233q (ninS Nz248 nin0)).ext E235).ext E236).ext E237)
      have Fz251 := (((((((Xa227.keep K228q).keep K229q).keep K231q).keep K233q).ext E235).ext E236).ext E237)
      have Fz252 := (((A233r.ext E235).ext E236).ext E237)
      obtain ⟨_, _, ⟨T253, Lu253, ku253, nu253⟩, -, X253, hS253, hg253, ⟨Lc253, hQ253, lu253, yu253, zu253, C253⟩, st253⟩ := X237.specialBackS hx (y := (⟨"com/example/trailcaster/trailcaster/model/ParticipantObject", "<init>", "(Ljava/lang/String;Ljava/lang/String;Ljava/lang/String;Lcom/example/trailcaster/trailcaster/model/CodedValue;Ljava/lang/String;[BLjava/util/List;Lcom/example/trailcaster/trailcaster/model/DicomObjectDescription;)V"⟩ : MethodName)) rfl hown (mvT hZ (hw _ (List.mem_of_getElem? (i := 80) rfl))) (mvT hZ (hw _ (List.mem_of_getElem? (i := 81) rfl))) (mvT hZ (hw _ (List.mem_of_getElem? (i := 82) rfl))) (by decide) (backOfSH (W := 1) (rm_poB l Z a0 hw [] (b235) (a236) (b1) (b17) (a237) (t237) (kb237) (_) (b227) (k227) ((4 : Int32)) ([(.int (nar .byte (p2.toInt8.toInt32))), (.int (nar .byte (p3.toInt8.toInt32))), (.int (nar .byte (p4.toInt8.toInt32))), (.int (nar .byte (p5.toInt8.toInt32)))]) (cs0) (a_EM) (a_DF) (m_A) (m_L) (m_R) h237 O237 w Fz238 Fz239 Fz240 Fz241 Fz242 Fz243 Fz244 Fz245 Fz246 ge_b235 Fz247 Fz249 Fz250 A237 V237 B237 Fz251 Fz252 (by decide)) hZ (hw _ (List.mem_of_getElem? (i := 82) rfl)) (hw _ (List.mem_of_getElem? (i := 77) rfl)) (by decide) (by decide) hEW R237.1) (g := (mkF m 134 #[.val (.int p0), .val (.int p1), .val (.int p2), .val (.int p3), .val (.int p4), .val (.int p5), .val (.ref b1), .val (.ref b17), .val (.int (4 : Int32)), .val (.ref b227), .unset, .unset, .unset] [.null, (.ref b17), (.ref b227), .null, (.ref b1), .null, (.ref a237), (.ref a236), (.ref b235), (.ref b235)])) rfl (by rw [hml]; rfl) (Steps.refl _) (a := b235) (argsL := [(.ref a236), (.ref a237), .null, (.ref b1), .null, (.ref b227), (.ref b17), .null]) (rest := [(.ref b235)]) (lenOf own_pd18 rfl) rfl (by show 2 * 0 + _ ≤ _; exact Nat.le_of_eq rfl) (hb hby at_134) (fun _ _ => ⟨rfl, e237, (by decide : 20 + 14 ≤ _), (by decide : 190 + 189 ≤ _)⟩)
      dsimp only [Pt.U, Pt.locs, Pt.cells, Pt.slots] at X253 lu253 yu253 zu253 st253 hQ253 hS253 hg253 C253
      subst lu253 yu253 zu253
      obtain ⟨X253, hS, hZ, hown⟩ := rebS hS (by rw [show T237.heap = h237 from e237]; exact hk) X253 hS253 hg253 hZ hown
      have R253 := R237.trans C253
      obtain ⟨r253, rfl, N253q, K253q, u2_253, X253q, F253q, Y253q, A253q⟩ := hQ253
      have N253 := Fr.app N233 N253q
      have O253 := own_extK O237 K253q (allS ge_b235 all0)
      have KK253 : Keep h0 T253.heap [] := K237.trans K253q (allS (Or.inr sz_b235) all0)
      have Fz254 := (CC237.safe (A235.ext E236).lt (CC236.safe A235.lt Sf235))
      refine own_go (T253.setTop (mkF m 137 #[.val (.int p0), .val (.int p1), .val (.int p2), .val (.int p3), .val (.int p4), .val (.int p5), .val (.ref b1), .val (.ref b17), .val (.int (4 : Int32)), .val (.ref b227), .unset, .unset, .unset] [(.ref b235)])) (fun t_ k_ => st253.trans k_) ?_
      refine own_go (T253.setTop (mkF m 139 #[.val (.int p0), .val (.int p1), .val (.int p2), .val (.int p3), .val (.int p4), .val (.int p5), .val (.ref b1), .val (.ref b17), .val (.int (4 : Int32)), .val (.ref b227), .val (.ref b235), .unset, .unset] [])) (fun t_ k_ => XS.astore X253.here hx rfl (hb hby at_137) rfl rfl (l' := #[.val (.int p0), .val (.int p1), .val (.int p2), .val (.int p3), .val (.int p4), .val (.int p5), .val (.ref b1), .val (.ref b17), .val (.int (4 : Int32)), .val (.ref b227), .val (.ref b235), .unset, .unset]) rfl k_) ?_
      refine own_go (T253.setTop (mkF m 141 #[.val (.int p0), .val (.int p1), .val (.int p2), .val (.int p3), .val (.int p4), .val (.int p5), .val (.ref b1), .val (.ref b17), .val (.int (4 : Int32)), .val (.ref b227), .val (.ref b235), .unset, .unset] [(.ref b227)])) (fun t_ k_ => XS.aload X253.here hx rfl (hb hby at_139) rfl rfl k_) ?_
      refine own_go (T253.setTop (mkF m 142 #[.val (.int p0), .val (.int p1), .val (.int p2), .val (.int p3), .val (.int p4), .val (.int p5), .val (.ref b1), .val (.ref b17), .val (.int (4 : Int32)), .val (.ref b227), .val (.ref b235), .unset, .unset] [(.int (0 : Int32)), (.ref b227)])) (fun t_ k_ => XS.iconst X253.here hx rfl (hb hby at_141) k_) ?_
      have Nz255 : b227 ≠ b235 := (Nat.ne_of_lt (Nat.lt_of_lt_of_le ((((Xa227.keep K228q).keep K229q).keep K231q).keep K233q).lt (Nat.le_of_eq g235.symm)))
      have Fz256 := (Fz252.keep K253q (ninS Nz255 nin0))
      obtain ⟨_, _, ⟨T257, Lu257, ku257, nu257⟩, -, X257, ⟨Lc257, hQ257, lu257, yu257, zu257⟩, st257⟩ := Jvm.LawKit.callS X253 hx (y := (⟨"com/example/trailcaster/trailcaster/model/ParticipantObjectQueryPinLaw", "flip", "([BI)V"⟩ : MethodName)) hown (mvT hZ (hw _ (List.mem_of_getElem? (i := 216) rfl))) (mvT hZ (hw _ (List.mem_of_getElem? (i := 217) rfl))) (mvT hZ (hw _ (List.mem_of_getElem? (i := 73) rfl))) (mvT hZ (hw _ (List.mem_of_getElem? (i := 218) rfl))) (by decide) (backOf (W := 0) (rm_flipi l Z a0 hw [] (b227) (k227) ((4 : Int32)) ([(.int (nar .byte (p2.toInt8.toInt32))), (.int (nar .byte (p3.toInt8.toInt32))), (.int (nar .byte (p4.toInt8.toInt32))), (.int (nar .byte (p5.toInt8.toInt32)))]) ((0 : Int32)) (0) ((nar .byte (p2.toInt8.toInt32))) T253.heap O253 Fz256 (by decide) (by decide) rfl (Nat.le_of_ble_eq_true rfl) ge_b227 rfl) hZ (hw _ (List.mem_of_getElem? (i := 218) rfl)) (hw _ (List.mem_of_getElem? (i := 73) rfl)) (by decide) (by decide)) (g := (mkF m 142 #[.val (.int p0), .val (.int p1), .val (.int p2), .val (.int p3), .val (.int p4), .val (.int p5), .val (.ref b1), .val (.ref b17), .val (.int (4 : Int32)), .val (.ref b227), .val (.ref b235), .unset, .unset] [(.int (0 : Int32)), (.ref b227)])) rfl (by rw [hml]; rfl) (argsL := [(.ref b227), (.int (0 : Int32))]) (rest := []) (lenOf own_pd19 rfl) rfl (by show 2 * 0 + _ ≤ _; exact Nat.le_of_eq rfl) (hb hby at_142) (fun _ _ => ⟨rfl, rfl, (by decide : 34 + 0 ≤ _), (by decide : 379 + 0 ≤ _)⟩)
      dsimp only [Pt.U, Pt.locs, Pt.cells, Pt.slots] at X257 lu257 yu257 zu257 st257 hQ257
      subst lu257 yu257 zu257
      obtain ⟨rfl, N257q, K257q, A257q⟩ := hQ257
      have N257 := Fr.app N253 N257q
      have A257r : Arv Z T257.heap b227 k227 .byte (4 : Int32) [(.int (nar .byte ((((nar .byte (p2.toInt8.toInt32)) ^^^ (-1 : Int32)).toInt8.toInt32)))), (.int (nar .byte (p3.toInt8.toInt32))), (.int (nar .byte (p4.toInt8.toInt32))), (.int (nar .byte (p5.toInt8.toInt32)))] (.int 0) := A257q
      have O257 := own_extK O253 K257q (allS ge_b227 all0)
      have KK257 : Keep h0 T257.heap [] := KK253.trans K257q (allS (Or.inr sz_b227) all0)
      have Fz258 := (C253.safe Fz251.lt (CC237.safe ((((((Xa227.keep K228q).keep K229q).keep K231q).keep K233q).ext E235).ext E236).lt (CC236.safe (((((Xa227.keep K228q).keep K229q).keep K231q).keep K233q).ext E235).lt (Safe.ext E235 R233.1 (Safe.keep K233q (allS Fz234 all0) R231.1 Fz234)))))
      have R257 := R253.trans (CHr.keep K257q (allS Fz258 all0) R253.1)
      refine own_go (T257.setTop (mkF m 145 #[.val (.int p0), .val (.int p1), .val (.int p2), .val (.int p3), .val (.int p4), .val (.int p5), .val (.ref b1), .val (.ref b17), .val (.int (4 : Int32)), .val (.ref b227), .val (.ref b235), .unset, .unset] [])) (fun t_ k_ => st257 _ k_) ?_
      refine own_go (T257.setTop (mkF m 147 #[.val (.int p0), .val (.int p1), .val (.int p2), .val (.int p3), .val (.int p4), .val (.int p5), .val (.ref b1), .val (.ref b17), .val (.int (4 : Int32)), .val (.ref b227), .val (.ref b235), .unset, .unset] [(.ref b227)])) (fun t_ k_ => XS.aload X257.here hx rfl (hb hby at_145) rfl rfl k_) ?_
      refine own_go (T257.setTop (mkF m 148 #[.val (.int p0), .val (.int p1), .val (.int p2), .val (.int p3), .val (.int p4), .val (.int p5), .val (.ref b1), .val (.ref b17), .val (.int (4 : Int32)), .val (.ref b227), .val (.ref b235), .unset, .unset] [(.int (1 : Int32)), (.ref b227)])) (fun t_ k_ => XS.iconst X257.here hx rfl (hb hby at_147) k_) ?_
      obtain ⟨_, _, ⟨T259, Lu259, ku259, nu259⟩, -, X259, ⟨Lc259, hQ259, lu259, yu259, zu259⟩, st259⟩ := Jvm.LawKit.callS X257 hx (y := (⟨"com/example/trailcaster/trailcaster/model/ParticipantObjectQueryPinLaw", "flip", "([BI)V"⟩ : MethodName)) hown (mvT hZ (hw _ (List.mem_of_getElem? (i := 216) rfl))) (mvT hZ (hw _ (List.mem_of_getElem? (i := 217) rfl))) (mvT hZ (hw _ (List.mem_of_getElem? (i := 73) rfl))) (mvT hZ (hw _ (List.mem_of_getElem? (i := 218) rfl))) (by decide) (backOf (W := 0) (rm_flipi l Z a0 hw [] (b227) (k227) ((4 : Int32)) ([(.int (nar .byte ((((nar .byte (p2.toInt8.toInt32)) ^^^ (-1 : Int32)).toInt8.toInt32)))), (.int (nar .byte (p3.toInt8.toInt32))), (.int (nar .byte (p4.toInt8.toInt32))), (.int (nar .byte (p5.toInt8.toInt32)))]) ((1 : Int32)) (1) ((nar .byte (p3.toInt8.toInt32))) T257.heap O257 A257r (by decide) (by decide) rfl (Nat.le_of_ble_eq_true rfl) ge_b227 rfl) hZ (hw _ (List.mem_of_getElem? (i := 218) rfl)) (hw _ (List.mem_of_getElem? (i := 73) rfl)) (by decide) (by decide)) (g := (mkF m 148 #[.val (.int p0), .val (.int p1), .val (.int p2), .val (.int p3), .val (.int p4), .val (.int p5), .val (.ref b1), .val (.ref b17), .val (.int (4 : Int32)), .val (.ref b227), .val (.ref b235), .unset, .unset] [(.int (1 : Int32)), (.ref b227)])) rfl (by rw [hml]; rfl) (argsL := [(.ref b227), (.int (1 : Int32))]) (rest := []) (lenOf own_pd19 rfl) rfl (by show 2 * 0 + _ ≤ _; exact Nat.le_of_eq rfl) (hb hby at_148) (fun _ _ => ⟨rfl, rfl, (by decide : 34 + 0 ≤ _), (by decide : 379 + 0 ≤ _)⟩)
      dsimp only [Pt.U, Pt.locs, Pt.cells, Pt.slots] at X259 lu259 yu259 zu259 st259 hQ259
      subst lu259 yu259 zu259
      obtain ⟨rfl, N259q, K259q, A259q⟩ := hQ259
      have N259 := Fr.app N257 N259q
      have A259r : Arv Z T259.heap b227 k227 .byte (4 : Int32) [(.int (nar .byte ((((nar .byte (p2.toInt8.toInt32)) ^^^ (-1 : Int32)).toInt8.toInt32)))), (.int (nar .byte ((((nar .byte (p3.toInt8.toInt32)) ^^^ (-1 : Int32)).toInt8.toInt32)))), (.int (nar .byte (p4.toInt8.toInt32))), (.int (nar .byte (p5.toInt8.toInt32)))] (.int 0) := A259q
      have O259 := own_extK O257 K259q (allS ge_b227 all0)
      have KK259 : Keep h0 T259.heap [] := KK257.trans K259q (allS (Or.inr sz_b227) all0)
      have Fz260 := (Safe.keep K257q (allS Fz258 all0) R253.1 Fz258)
      have R259 := R257.trans (CHr.keep K259q (allS Fz260 all0) R257.1)
      refine own_go (T259.setTop (mkF m 151 #[.val (.int p0), .val (.int p1), .val (.int p2), .val (.int p3), .val (.int p4), .val (.int p5), .val (.ref b1), .val (.ref b17), .val (.int (4 : Int32)), .val (.ref b227), .val (.ref b235), .unset, .unset] [])) (fun t_ k_ => st259 _ k_) ?_
      refine own_go (T259.setTop (mkF m 153 #[.val (.int p0), .val (.int p1), .val (.int p2), .val (.int p3), .val (.int p4), .val (.int p5), .val (.ref b1), .val (.ref b17), .val (.int (4 : Int32)), .val (.ref b227), .val (.ref b235), .unset, .unset] [(.ref b227)])) (fun t_ k_ => XS.aload X259.here hx rfl (hb hby at_151) rfl rfl k_) ?_
      refine own_go (T259.setTop (mkF m 154 #[.val (.int p0), .val (.int p1), .val (.int p2), .val (.int p3), .val (.int p4), .val (.int p5), .val (.ref b1), .val (.ref b17), .val (.int (4 : Int32)), .val (.ref b227), .val (.ref b235), .unset, .unset] [(.int (2 : Int32)), (.ref b227)])) (fun t_ k_ => XS.iconst X259.here hx rfl (hb hby at_153) k_) ?_
      obtain ⟨_, _, ⟨T261, Lu261, ku261, nu261⟩, -, X261, ⟨Lc261, hQ261, lu261, yu261, zu261⟩, st261⟩ := Jvm.LawKit.callS X259 hx (y := (⟨"com/example/trailcaster/trailcaster/model/ParticipantObjectQueryPinLaw", "flip", "([BI)V"⟩ : MethodName)) hown (mvT hZ (hw _ (List.mem_of_getElem? (i := 216) rfl))) (mvT hZ (hw _ (List.mem_of_getElem? (i := 217) rfl))) (mvT hZ (hw _ (List.mem_of_getElem? (i := 73) rfl))) (mvT hZ (hw _ (List.mem_of_getElem? (i := 218) rfl))) (by decide) (backOf (W := 0) (rm_flipi l Z a0 hw [] (b227) (k227) ((4 : Int32)) ([(.int (nar .byte ((((nar .byte (p2.toInt8.toInt32)) ^^^ (-1 : Int32)).toInt8.toInt32)))), (.int (nar .byte ((((nar .byte (p3.toInt8.toInt32)) ^^^ (-1 : Int32)).toInt8.toInt32)))), (.int (nar .byte (p4.toInt8.toInt32))), (.int (nar .byte (p5.toInt8.toInt32)))]) ((2 : Int32)) (2) ((nar .byte (p4.toInt8.toInt32))) T259.heap O259 A259r (by decide) (by decide) rfl (Nat.le_of_ble_eq_true rfl) ge_b227 rfl) hZ (hw _ (List.mem_of_getElem? (i := 218) rfl)) (hw _ (List.mem_of_getElem? (i := 73) rfl)) (by decide) (by decide)) (g := (mkF m 154 #[.val (.int p0), .val (.int p1), .val (.int p2), .val (.int p3), .val (.int p4), .val (.int p5), .val (.ref b1), .val (.ref b17), .val (.int (4 : Int32)), .val (.ref b227), .val (.ref b235), .unset, .unset] [(.int (2 : Int32)), (.ref b227)])) rfl (by rw [hml]; rfl) (argsL := [(.ref b227), (.int (2 : Int32))]) (rest := []) (lenOf own_pd19 rfl) rfl (by show 2 * 0 + _ ≤ _; exact Nat.le_of_eq rfl) (hb hby at_154) (fun _ _ => ⟨rfl, rfl, (by decide : 34 + 0 ≤ _), (by decide : 379 + 0 ≤ _)⟩)
      dsimp only [Pt.U, Pt.locs, Pt.cells, Pt.slots] at X261 lu261 yu261 zu261 st261 hQ261
      subst lu261 yu261 zu261
      obtain ⟨rfl, N261q, K261q, A261q⟩ := hQ261
      have N261 := Fr.app N259 N261q
      have A261r : Arv Z T261.heap b227 k227 .byte (4 : Int32) [(.int (nar .byte ((((nar .byte (p2.toInt8.toInt32)) ^^^ (-1 : Int32)).toInt8.toInt32)))), (.int (nar .byte ((((nar .byte (p3.toInt8.toInt32)) ^^^ (-1 : Int32)).toInt8.toInt32)))), (.int (nar .byte ((((nar .byte (p4.toInt8.toInt32)) ^^^ (-1 : Int32)).toInt8.toInt32)))), (.int (nar .byte (p5.toInt8.toInt32)))] (.int 0) := A261q
      have O261 := own_extK O259 K261q (allS ge_b227 all0)
      have KK261 : Keep h0 T261.heap [] := KK259.trans K261q (allS (Or.inr sz_b227) all0)
      have Fz262 := (Safe.keep K259q (allS Fz260 all0) R257.1 Fz260)
      have R261 := R259.trans (CHr.keep K261q (allS Fz262 all0) R259.1)
      refine own_go (T261.setTop (mkF m 157 #[.val (.int p0), .val (.int p1), .val (.int p2), .val (.int p3), .val (.int p4), .val (.int p5), .val (.ref b1), .val (.ref b17), .val (.int (4 : Int32)), .val (.ref b227), .val (.ref b235), .unset, .unset] [])) (fun t_ k_ => st261 _ k_) ?_
      refine own_go (T261.setTop (mkF m 159 #[.val (.int p0), .val (.int p1), .val (.int p2), .val (.int p3), .val (.int p4), .val (.int p5), .val (.ref b1), .val (.ref b17), .val (.int (4 : Int32)), .val (.ref b227), .val (.ref b235), .unset, .unset] [(.ref b227)])) (fun t_ k_ => XS.aload X261.here hx rfl (hb hby at_157) rfl rfl k_) ?_
      refine own_go (T261.setTop (mkF m 160 #[.val (.int p0), .val (.int p1), .val (.int p2), .val (.int p3), .val (.int p4), .val (.int p5), .val (.ref b1), .val (.ref b17), .val (.int (4 : Int32)), .val (.ref b227), .val (.ref b235), .unset, .unset] [(.int (3 : Int32)), (.ref b227)])) (fun t_ k_ => XS.iconst X261.here hx rfl (hb hby at_159) k_) ?_
      obtain ⟨_, _, ⟨T263, Lu263, ku263, nu263⟩, -, X263, ⟨Lc263, hQ263, lu263, yu263, zu263⟩, st263⟩ := Jvm.LawKit.callS X261 hx (y := (⟨"com/example/trailcaster/trailcaster/model/ParticipantObjectQueryPinLaw", "flip", "([BI)V"⟩ : MethodName)) hown (mvT hZ (hw _ (List.mem_of_getElem? (i := 216) rfl))) (mvT hZ (hw _ (List.mem_of_getElem? (i := 217) rfl))) (mvT hZ (hw _ (List.mem_of_getElem? (i := 73) rfl))) (mvT hZ (hw _ (List.mem_of_getElem? (i := 218) rfl))) (by decide) (backOf (W := 0) (rm_flipi l Z a0 hw [] (b227) (k227) ((4 : Int32)) ([(.int (nar .byte ((((nar .byte (p2.toInt8.toInt32)) ^^^ (-1 : Int32)).toInt8.toInt32)))), (.int (nar .byte ((((nar .byte (p3.toInt8.toInt32)) ^^^ (-1 : Int32)).toInt8.toInt32)))), (.int (nar .byte ((((nar .byte (p4.toInt8.toInt32)) ^^^ (-1 : Int32)).toInt8.toInt32)))), (.int (nar .byte (p5.toInt8.toInt32)))]) ((3 : Int32)) (3) ((nar .byte (p5.toInt8.toInt32))) T261.heap O261 A261r (by decide) (by decide) rfl (Nat.le_of_ble_eq_true rfl) ge_b227 rfl) hZ (hw _ (List.mem_of_getElem? (i := 218) rfl)) (hw _ (List.mem_of_getElem? (i := 73) rfl)) (by decide) (by decide)) (g := (mkF m 160 #[.val (.int p0), .val (.int p1), .val (.int p2), .val (.int p3), .val (.int p4), .val (.int p5), .val (.ref b1), .val (.ref b17), .val (.int (4 : Int32)), .val (.ref b227), .val (.ref b235), .unset, .unset] [(.int (3 : Int32)), (.ref b227)])) rfl (by rw [hml]; rfl) (argsL := [(.ref b227), (.int (3 : Int32))]) (rest := []) (lenOf own_pd19 rfl) rfl (by show 2 * 0 + _ ≤ _; exact Nat.le_of_eq rfl) (hb hby at_160) (fun _ _ => ⟨rfl, rfl, (by decide : 34 + 0 ≤ _), (by decide : 379 + 0 ≤ _)⟩)
      dsimp only [Pt.U, Pt.locs, Pt.cells, Pt.slots] at X263 lu263 yu263 zu263 st263 hQ263
      subst lu263 yu263 zu263
      obtain ⟨rfl, N263q, K263q, A263q⟩ := hQ263
      have N263 := Fr.app N261 N263q
      have A263r : Arv Z T263.heap b227 k227 .byte (4 : Int32) [(.int (nar .byte ((((nar .byte (p2.toInt8.toInt32)) ^^^ (-1 : Int32)).toInt8.toInt32)))), (.int (nar .byte ((((nar .byte (p3.toInt8.toInt32)) ^^^ (-1 : Int32)).toInt8.toInt32)))), (.int (nar .byte ((((nar .byte (p4.toInt8.toInt32)) ^^^ (-1 : Int32)).toInt8.toInt32)))), (.int (nar .byte ((((nar .byte (p5.toInt8.toInt32)) ^^^ (-1 : Int32)).toInt8.toInt32))))] (.int 0) := A263q
      have O263 := own_extK O261 K263q (allS ge_b227 all0)
      have KK263 : Keep h0 T263.heap [] := KK261.trans K263q (allS (Or.inr sz_b227) all0)
      have Fz264 := (Safe.keep K261q (allS Fz262 all0) R259.1 Fz262)
      have R263 := R261.trans (CHr.keep K263q (allS Fz264 all0) R261.1)
      refine own_go (T263.setTop (mkF m 163 #[.val (.int p0), .val (.int p1), .val (.int p2), .val (.int p3), .val (.int p4), .val (.int p5), .val (.ref b1), .val (.ref b17), .val (.int (4 : Int32)), .val (.ref b227), .val (.ref b235), .unset, .unset] [])) (fun t_ k_ => st263 _ k_) ?_
      refine own_go (T263.setTop (mkF m 165 #[.val (.int p0), .val (.int p1), .val (.int p2), .val (.int p3), .val (.int p4), .val (.int p5), .val (.ref b1), .val (.ref b17), .val (.int (4 : Int32)), .val (.ref b227), .val (.ref b235), .unset, .unset] [(.ref b235)])) (fun t_ k_ => XS.aload X263.here hx rfl (hb hby at_163) rfl rfl k_) ?_
      have Fz265 := ((((F253q.keep K257q (ninS (Ne.symm Nz255) nin0)).keep K259q (ninS (Ne.symm Nz255) nin0)).keep K261q (ninS (Ne.symm Nz255) nin0)).keep K263q (ninS (Ne.symm Nz255) nin0))
      have Fz266 := ((((Y253q.keep K257q).keep K259q).keep K261q).keep K263q)
      have Nz267 : b227 ≠ r253 := (Nat.ne_of_lt (Nat.lt_of_lt_of_le Fz251.lt u2_253))
      have Fz268 := ((((A253q.keep K257q (ninS (Ne.symm Nz267) nin0)).keep K259q (ninS (Ne.symm Nz267) nin0)).keep K261q (ninS (Ne.symm Nz267) nin0)).keep K263q (ninS (Ne.symm Nz267) nin0))
      have Fz270 := ((((X253q.keep K257q).keep K259q).keep K261q).keep K263q)
      obtain ⟨cq269, kq269, q269a, q269b, q269c⟩ := isOf hZ rfl Fz270
      obtain ⟨_, _, ⟨T269, Lu269, ku269, nu269⟩, -, X269, ⟨Lc269, hQ269, lu269, yu269, zu269⟩, st269⟩ := X263.virtualBack hx (y := (⟨"com/example/trailcaster/trailcaster/model/ParticipantObject", "query", "()[B"⟩ : MethodName)) (z := (⟨"com/example/trailcaster/trailcaster/model/ParticipantObject", "query", "()[B"⟩ : MethodName)) hown (mvT hZ (hw _ (List.mem_of_getElem? (i := 219) rfl))) (mvT hZ (hw _ (List.mem_of_getElem? (i := 220) rfl))) (notFace_of_selects (args := #[]) (mvT hZ (hw _ (List.mem_of_getElem? (i := 222) rfl)))) (mvT hZ (hw _ (List.mem_of_getElem? (i := 222) rfl))) (mvT hZ (hw _ (List.mem_of_getElem? (i := 221) rfl))) (by decide) (backOf (W := 0) (rm_qyB l Z a0 hw [] (b235) (r253) (k227) ((4 : Int32)) ([(.int (nar .byte (p2.toInt8.toInt32))), (.int (nar .byte (p3.toInt8.toInt32))), (.int (nar .byte (p4.toInt8.toInt32))), (.int (nar .byte (p5.toInt8.toInt32)))]) T263.heap O263 Fz265 Fz266 Fz268 (by decide)) hZ (hw _ (List.mem_of_getElem? (i := 223) rfl)) (hw _ (List.mem_of_getElem? (i := 77) rfl)) (by decide) (by decide)) q269a q269c (g := (mkF m 165 #[.val (.int p0), .val (.int p1), .val (.int p2), .val (.int p3), .val (.int p4), .val (.int p5), .val (.ref b1), .val (.ref b17), .val (.int (4 : Int32)), .val (.ref b227), .val (.ref b235), .unset, .unset] [(.ref b235)])) rfl (by rw [hml]; rfl) (Steps.refl _) (argsL := []) (rest := []) (lenOf own_pd20 rfl) rfl (by show 2 * 0 + _ ≤ _; exact Nat.le_of_eq rfl) (hb hby at_165) (fun _ _ => ⟨rfl, rfl, (by decide : 34 + 1 ≤ _), (by decide : 379 + 4 ≤ _)⟩)
      dsimp only [Pt.U, Pt.locs, Pt.cells, Pt.slots] at X269 lu269 yu269 zu269 st269 hQ269
      subst lu269 yu269 zu269
      obtain ⟨r269, rfl, N269q, K269q, u2_269, A269q⟩ := hQ269
      have N269 := Fr.app N263 N269q
      have Sn269 := own_snew R263.1 u2_269
      have O269 := own_extK O263 K269q all0
      have KK269 : Keep h0 T269.heap [] := KK263.trans K269q all0
      have R269 := R263.trans (CHr.keep K269q all0 R263.1)
      refine own_go (T269.setTop (mkF m 168 #[.val (.int p0), .val (.int p1), .val (.int p2), .val (.int p3), .val (.int p4), .val (.int p5), .val (.ref b1), .val (.ref b17), .val (.int (4 : Int32)), .val (.ref b227), .val (.ref b235), .unset, .unset] [(.ref r269)])) (fun t_ k_ => st269.trans k_) ?_
      refine own_go (T269.setTop (mkF m 170 #[.val (.int p0), .val (.int p1), .val (.int p2), .val (.int p3), .val (.int p4), .val (.int p5), .val (.ref b1), .val (.ref b17), .val (.int (4 : Int32)), .val (.ref b227), .val (.ref b235), .val (.ref r269), .unset] [])) (fun t_ k_ => XS.astore X269.here hx rfl (hb hby at_168) rfl rfl (l' := #[.val (.int p0), .val (.int p1), .val (.int p2), .val (.int p3), .val (.int p4), .val (.int p5), .val (.ref b1), .val (.ref b17), .val (.int (4 : Int32)), .val (.ref b227), .val (.ref b235), .val (.ref r269), .unset]) rfl k_) ?_
      refine own_go (T269.setTop (mkF m 172 #[.val (.int p0), .val (.int p1), .val (.int p2), .val (.int p3), .val (.int p4), .val (.int p5), .val (.ref b1), .val (.ref b17), .val (.int (4 : Int32)), .val (.ref b227), .val (.ref b235), .val (.ref r269), .unset] [(.ref r269)])) (fun t_ k_ => XS.aload X269.here hx rfl (hb hby at_170) rfl rfl k_) ?_
      refine own_go (T269.setTop (mkF m 175 #[.val (.int p0), .val (.int p1), .val (.int p2), .val (.int p3), .val (.int p4), .val (.int p5), .val (.ref b1), .val (.ref b17), .val (.int (4 : Int32)), .val (.ref b227), .val (.ref b235), .val (.ref r269), .unset] [])) (fun t_ k_ => XS.ifnullNo X269.here hx rfl (hb hby at_172) rfl k_) ?_
      refine own_go (T269.setTop (mkF m 177 #[.val (.int p0), .val (.int p1), .val (.int p2), .val (.int p3), .val (.int p4), .val (.int p5), .val (.ref b1), .val (.ref b17), .val (.int (4 : Int32)), .val (.ref b227), .val (.ref b235), .val (.ref r269), .unset] [(.ref r269)])) (fun t_ k_ => XS.aload X269.here hx rfl (hb hby at_175) rfl rfl k_) ?_
      refine own_go (T269.setTop (mkF m 179 #[.val (.int p0), .val (.int p1), .val (.int p2), .val (.int p3), .val (.int p4), .val (.int p5), .val (.ref b1), .val (.ref b17), .val (.int (4 : Int32)), .val (.ref b227), .val (.ref b235), .val (.ref r269), .unset] [(.int (4 : Int32)), (.ref r269)])) (fun t_ k_ => XS.iload X269.here hx rfl (hb hby at_177) rfl k_) ?_
      refine own_go (T269.setTop (mkF m 180 #[.val (.int p0), .val (.int p1), .val (.int p2), .val (.int p3), .val (.int p4), .val (.int p5), .val (.ref b1), .val (.ref b17), .val (.int (4 : Int32)), .val (.ref b227), .val (.ref b235), .val (.ref r269), .unset] [(.int p2), (.int (4 : Int32)), (.ref r269)])) (fun t_ k_ => XS.iloadN X269.here hx rfl (hb hby at_179) rfl k_) ?_
      refine own_go (T269.setTop (mkF m 181 #[.val (.int p0), .val (.int p1), .val (.int p2), .val (.int p3), .val (.int p4), .val (.int p5), .val (.ref b1), .val (.ref b17), .val (.int (4 : Int32)), .val (.ref b227), .val (.ref b235), .val (.ref r269), .unset] [(.int p3), (.int p2), (.int (4 : Int32)), (.ref r269)])) (fun t_ k_ => XS.iloadN X269.here hx rfl (hb hby at_180) rfl k_) ?_
      refine own_go (T269.setTop (mkF m 183 #[.val (.int p0), .val (.int p1), .val (.int p2), .val (.int p3), .val (.int p4), .val (.int p5), .val (.ref b1), .val (.ref b17), .val (.int (4 : Int32)), .val (.ref b227), .val (.ref b235), .val (.ref r269), .unset] [(.int p4), (.int p3), (.int p2), (.int (4 : Int32)), (.ref r269)])) (fun t_ k_ => XS.iload X269.here hx rfl (hb hby at_181) rfl k_) ?_
      refine own_go (T269.setTop (mkF m 185 #[.val (.int p0), .val (.int p1), .val (.int p2), .val (.int p3), .val (.int p4), .val (.int p5), .val (.ref b1), .val (.ref b17), .val (.int (4 : Int32)), .val (.ref b227), .val (.ref b235), .val (.ref r269), .unset] [(.int p5), (.int p4), (.int p3), (.int p2), (.int (4 : Int32)), (.ref r269)])) (fun t_ k_ => XS.iload X269.here hx rfl (hb hby at_183) rfl k_) ?_
      obtain ⟨_, _, ⟨T271, Lu271, ku271, nu271⟩, -, X271, ⟨Lc271, hQ271, lu271, yu271, zu271⟩, st271⟩ := Jvm.LawKit.callS X269 hx (y := (⟨"com/example/trailcaster/trailcaster/model/ParticipantObjectQueryPinLaw", "same", "([BIIIII)Z"⟩ : MethodName)) hown (mvT hZ (hw _ (List.mem_of_getElem? (i := 224) rfl))) (mvT hZ (hw _ (List.mem_of_getElem? (i := 225) rfl))) (mvT hZ (hw _ (List.mem_of_getElem? (i := 73) rfl))) (mvT hZ (hw _ (List.mem_of_getElem? (i := 226) rfl))) (by decide) (backOf (W := 0) (rm_same4 l Z a0 hw [] (r269) (k227) (p2) (p3) (p4) (p5) T269.heap O269 A269q) hZ (hw _ (List.mem_of_getElem? (i := 226) rfl)) (hw _ (List.mem_of_getElem? (i := 73) rfl)) (by decide) (by decide)) (g := (mkF m 185 #[.val (.int p0), .val (.int p1), .val (.int p2), .val (.int p3), .val (.int p4), .val (.int p5), .val (.ref b1), .val (.ref b17), .val (.int (4 : Int32)), .val (.ref b227), .val (.ref b235), .val (.ref r269), .unset] [(.int p5), (.int p4), (.int p3), (.int p2), (.int (4 : Int32)), (.ref r269)])) rfl (by rw [hml]; rfl) (argsL := [(.ref r269), (.int (4 : Int32)), (.int p2), (.int p3), (.int p4), (.int p5)]) (rest := []) (lenOf own_pd21 rfl) rfl (by show 2 * 0 + _ ≤ _; exact Nat.le_of_eq rfl) (hb hby at_185) (fun _ _ => ⟨rfl, rfl, (by decide : 35 + 0 ≤ _), (by decide : 383 + 0 ≤ _)⟩)
      dsimp only [Pt.U, Pt.locs, Pt.cells, Pt.slots] at X271 lu271 yu271 zu271 st271 hQ271
      subst lu271 yu271 zu271
      obtain ⟨rfl, N271q, e271⟩ := hQ271
      have N271 := Fr.app N269 N271q
      refine own_go (T271.setTop (mkF m 188 #[.val (.int p0), .val (.int p1), .val (.int p2), .val (.int p3), .val (.int p4), .val (.int p5), .val (.ref b1), .val (.ref b17), .val (.int (4 : Int32)), .val (.ref b227), .val (.ref b235), .val (.ref r269), .unset] [(.int (1 : Int32))])) (fun t_ k_ => st271 _ k_) ?_
      refine own_go (T271.setTop (mkF m 193 #[.val (.int p0), .val (.int p1), .val (.int p2), .val (.int p3), .val (.int p4), .val (.int p5), .val (.ref b1), .val (.ref b17), .val (.int (4 : Int32)), .val (.ref b227), .val (.ref b235), .val (.ref r269), .unset] [])) (fun t_ k_ => XS.ifYes X271.here hx rfl (pc0 := 188) (pc' := 193) rfl (hb hby at_188) rfl ((if0 _ _).trans (feq (by decide : ¬ ((1 : Int32) = (0 : Int32)))).2) (by decide) (by decide) k_) ?_
      refine own_go (T271.setTop (mkF m 195 #[.val (.int p0), .val (.int p1), .val (.int p2), .val (.int p3), .val (.int p4), .val (.int p5), .val (.ref b1), .val (.ref b17), .val (.int (4 : Int32)), .val (.ref b227), .val (.ref b235), .val (.ref r269), .unset] [(.ref r269)])) (fun t_ k_ => XS.aload X271.here hx rfl (hb hby at_193) rfl rfl k_) ?_
      refine own_go (T271.setTop (mkF m 196 #[.val (.int p0), .val (.int p1), .val (.int p2), .val (.int p3), .val (.int p4), .val (.int p5), .val (.ref b1), .val (.ref b17), .val (.int (4 : Int32)), .val (.ref b227), .val (.ref b235), .val (.ref r269), .unset] [(.int (0 : Int32)), (.ref r269)])) (fun t_ k_ => XS.iconst X271.here hx rfl (hb hby at_195) k_) ?_
      obtain ⟨_, _, ⟨T272, Lu272, ku272, nu272⟩, -, X272, ⟨Lc272, hQ272, lu272, yu272, zu272⟩, st272⟩ := Jvm.LawKit.callS X271 hx (y := (⟨"com/example/trailcaster/trailcaster/model/ParticipantObjectQueryPinLaw", "flip", "([BI)V"⟩ : MethodName)) hown (mvT hZ (hw _ (List.mem_of_getElem? (i := 216) rfl))) (mvT hZ (hw _ (List.mem_of_getElem? (i := 217) rfl))) (mvT hZ (hw _ (List.mem_of_getElem? (i := 73) rfl))) (mvT hZ (hw _ (List.mem_of_getElem? (i := 218) rfl))) (by decide) (backOf (W := 0) (rm_flipi l Z a0 hw [] (r269) (k227) ((4 : Int32)) ([(.int (nar .byte (p2.toInt8.toInt32))), (.int (nar .byte (p3.toInt8.toInt32))), (.int (nar .byte (p4.toInt8.toInt32))), (.int (nar .byte (p5.toInt8.toInt32)))]) ((0 : Int32)) (0) ((nar .byte (p2.toInt8.toInt32))) T269.heap O269 A269q (by decide) (by decide) rfl (Nat.le_of_ble_eq_true rfl) (Nat.le_trans O263.1 u2_269) rfl) hZ (hw _ (List.mem_of_getElem? (i := 218) rfl)) (hw _ (List.mem_of_getElem? (i := 73) rfl)) (by decide) (by decide)) (g := (mkF m 196 #[.val (.int p0), .val (.int p1), .val (.int p2), .val (.int p3), .val (.int p4), .val (.int p5), .val (.ref b1), .val (.ref b17), .val (.int (4 : Int32)), .val (.ref b227), .val (.ref b235), .val (.ref r269), .unset] [(.int (0 : Int32)), (.ref r269)])) rfl (by rw [hml]; rfl) (argsL := [(.ref r269), (.int (0 : Int32))]) (rest := []) (lenOf own_pd19 rfl) rfl (by show 2 * 0 + _ ≤ _; exact Nat.le_of_eq rfl) (hb hby at_196) (fun _ _ => ⟨rfl, e271, (by decide : 35 + 0 ≤ _), (by decide : 383 + 0 ≤ _)⟩)
      dsimp only [Pt.U, Pt.locs, Pt.cells, Pt.slots] at X272 lu272 yu272 zu272 st272 hQ272
      subst lu272 yu272 zu272
      obtain ⟨rfl, N272q, K272q, A272q⟩ := hQ272
      have N272 := Fr.app N271 N272q
      have A272r : Arv Z T272.heap r269 k227 .byte (4 : Int32) [(.int (nar .byte ((((nar .byte (p2.toInt8.toInt32)) ^^^ (-1 : Int32)).toInt8.toInt32)))), (.int (nar .byte (p3.toInt8.toInt32))), (.int (nar .byte (p4.toInt8.toInt32))), (.int (nar .byte (p5.toInt8.toInt32)))] (.int 0) := A272q
      have O272 := own_extK O269 K272q (allS (Nat.le_trans O263.1 u2_269) all0)
      have KK272 : Keep h0 T272.heap [] := KK269.trans K272q (allS (Or.inr (Nat.le_trans KK263.1 u2_269)) all0)
      have Fz273 := (Safe.keep K269q all0 R263.1 Sn269)
      have R272 := R269.trans (CHr.keep K272q (allS Fz273 all0) R269.1)
      refine own_go (T272.setTop (mkF m 199 #[.val (.int p0), .val (.int p1), .val (.int p2), .val (.int p3), .val (.int p4), .val (.int p5), .val (.ref b1), .val (.ref b17), .val (.int (4 : Int32)), .val (.ref b227), .val (.ref b235), .val (.ref r269), .unset] [])) (fun t_ k_ => st272 _ k_) ?_
      refine own_go (T272.setTop (mkF m 201 #[.val (.int p0), .val (.int p1), .val (.int p2), .val (.int p3), .val (.int p4), .val (.int p5), .val (.ref b1), .val (.ref b17), .val (.int (4 : Int32)), .val (.ref b227), .val (.ref b235), .val (.ref r269), .unset] [(.ref r269)])) (fun t_ k_ => XS.aload X272.here hx rfl (hb hby at_199) rfl rfl k_) ?_
      refine own_go (T272.setTop (mkF m 202 #[.val (.int p0), .val (.int p1), .val (.int p2), .val (.int p3), .val (.int p4), .val (.int p5), .val (.ref b1), .val (.ref b17), .val (.int (4 : Int32)), .val (.ref b227), .val (.ref b235), .val (.ref r269), .unset] [(.int (1 : Int32)), (.ref r269)])) (fun t_ k_ => XS.iconst X272.here hx rfl (hb hby at_201) k_) ?_
      obtain ⟨_, _, ⟨T274, Lu274, ku274, nu274⟩, -, X274, ⟨Lc274, hQ274, lu274, yu274, zu274⟩, st274⟩ := Jvm.LawKit.callS X272 hx (y := (⟨"com/example/trailcaster/trailcaster/model/ParticipantObjectQueryPinLaw", "flip", "([BI)V"⟩ : MethodName)) hown (mvT hZ (hw _ (List.mem_of_getElem? (i := 216) rfl))) (mvT hZ (hw _ (List.mem_of_getElem? (i := 217) rfl))) (mvT hZ (hw _ (List.mem_of_getElem? (i := 73) rfl))) (mvT hZ (hw _ (List.mem_of_getElem? (i := 218) rfl))) (by decide) (backOf (W := 0) (rm_flipi l Z a0 hw [] (r269) (k227) ((4 : Int32)) ([(.int (nar .byte ((((nar .byte (p2.toInt8.toInt32)) ^^^ (-1 : Int32)).toInt8.toInt32)))), (.int (nar .byte (p3.toInt8.toInt32))), (.int (nar .byte (p4.toInt8.toInt32))), (.int (nar .byte (p5.toInt8.toInt32)))]) ((1 : Int32)) (1) ((nar .byte (p3.toInt8.toInt32))) T272.heap O272 A272r (by decide) (by decide) rfl (Nat.le_of_ble_eq_true rfl) (Nat.le_trans O263.1 u2_269) rfl) hZ (hw _ (List.mem_of_getElem? (i := 218) rfl)) (hw _ (List.mem_of_getElem? (i := 73) rfl)) (by decide) (by decide)) (g := (mkF m 202 #[.val (.int p0), .val (.int p1), .val (.int p2), .val (.int p3), .val (.int p4), .val (.int p5), .val (.ref b1), .val (.ref b17), .val (.int (4 : Int32)), .val (.ref b227), .val (.ref b235), .val (.ref r269), .unset] [(.int (1 : Int32)), (.ref r269)])) rfl (by rw [hml]; rfl) (argsL := [(.ref r269), (.int (1 : Int32))]) (rest := []) (lenOf own_pd19 rfl) rfl (by show 2 * 0 + _ ≤ _; exact Nat.le_of_eq rfl) (hb hby at_202) (fun _ _ => ⟨rfl, rfl, (by decide : 35 + 0 ≤ _), (by decide : 383 + 0 ≤ _)⟩)
      dsimp only [Pt.U, Pt.locs, Pt.cells, Pt.slots] at X274 lu274 yu274 zu274 st274 hQ274
      subst lu274 yu274 zu274
      obtain ⟨rfl, N274q, K274q, A274q⟩ := hQ274
      have N274 := Fr.app N272 N274q
      have A274r : Arv Z T274.heap r269 k227 .byte (4 : Int32) [(.int (nar .byte ((((nar .byte (p2.toInt8.toInt32)) ^^^ (-1 : Int32)).toInt8.toInt32)))), (.int (nar .byte ((((nar .byte (p3.toInt8.toInt32)) ^^^ (-1 : Int32)).toInt8.toInt32)))), (.int (nar .byte (p4.toInt8.toInt32))), (.int (nar .byte (p5.toInt8.toInt32)))] (.int 0) := A274q
      have O274 := own_extK O272 K274q (allS (Nat.le_trans O263.1 u2_269) all0)
      have KK274 : Keep h0 T274.heap [] := KK272.trans K274q (allS (Or.inr (Nat.le_trans KK263.1 u2_269)) all0)
      have Fz275 := (Safe.keep K272q (allS Fz273 all0) R269.1 Fz273)
      have R274 := R272.trans (CHr.keep K274q (allS Fz275 all0) R272.1)
      refine own_go (T274.setTop (mkF m 205 #[.val (.int p0), .val (.int p1), .val (.int p2), .val (.int p3), .val (.int p4), .val (.int p5), .val (.ref b1), .val (.ref b17), .val (.int (4 : Int32)), .val (.ref b227), .val (.ref b235), .val (.ref r269), .unset] [])) (fun t_ k_ => st274 _ k_) ?_
      refine own_go (T274.setTop (mkF m 207 #[.val (.int p0), .val (.int p1), .val (.int p2), .val (.int p3), .val (.int p4), .val (.int p5), .val (.ref b1), .val (.ref b17), .val (.int (4 : Int32)), .val (.ref b227), .val (.ref b235), .val (.ref r269), .unset] [(.ref r269)])) (fun t_ k_ => XS.aload X274.here hx rfl (hb hby at_205) rfl rfl k_) ?_
      refine own_go (T274.setTop (mkF m 208 #[.val (.int p0), .val (.int p1), .val (.int p2), .val (.int p3), .val (.int p4), .val (.int p5), .val (.ref b1), .val (.ref b17), .val (.int (4 : Int32)), .val (.ref b227), .val (.ref b235), .val (.ref r269), .unset] [(.int (2 : Int32)), (.ref r269)])) (fun t_ k_ => XS.iconst X274.here hx rfl (hb hby at_207) k_) ?_
      obtain ⟨_, _, ⟨T276, Lu276, ku276, nu276⟩, -, X276, ⟨Lc276, hQ276, lu276, yu276, zu276⟩, st276⟩ := Jvm.LawKit.callS X274 hx (y := (⟨"com/example/trailcaster/trailcaster/model/ParticipantObjectQueryPinLaw", "flip", "([BI)V"⟩ : MethodName)) hown (mvT hZ (hw _ (List.mem_of_getElem? (i := 216) rfl))) (mvT hZ (hw _ (List.mem_of_getElem? (i := 217) rfl))) (mvT hZ (hw _ (List.mem_of_getElem? (i := 73) rfl))) (mvT hZ (hw _ (List.mem_of_getElem? (i := 218) rfl))) (by decide) (backOf (W := 0) (rm_flipi l Z a0 hw [] (r269) (k227) ((4 : Int32)) ([(.int (nar .byte ((((nar .byte (p2.toInt8.toInt32)) ^^^ (-1 : Int32)).toInt8.toInt32)))), (.int (nar .byte ((((nar .byte (p3.toInt8.toInt32)) ^^^ (-1 : Int32)).toInt8.toInt32)))), (.int (nar .byte (p4.toInt8.toInt32))), (.int (nar .byte (p5.toInt8.toInt32)))]) ((2 : Int32)) (2) ((nar .byte (p4.toInt8.toInt32))) T274.heap O274 A274r (by decide) (by decide) rfl (Nat.le_of_ble_eq_true rfl) (Nat.le_trans O263.1 u2_269) rfl) hZ (hw _ (List.mem_of_getElem? (i := 218) rfl)) (hw _ (List.mem_of_getElem? (i := 73) rfl)) (by decide) (by decide)) (g := (mkF m 208 #[.val (.int p0), .val (.int p1), .val (.int p2), .val (.int p3), .val (.int p4), .val (.int p5), .val (.ref b1), .val (.ref b17), .val (.int (4 : Int32)), .val (.ref b227), .val (.ref b235), .val (.ref r269), .unset] [(.int (2 : Int32)), (.ref r269)])) rfl (by rw [hml]; rfl) (argsL := [(.ref r269), (.int (2 : Int32))]) (rest := []) (lenOf own_pd19 rfl) rfl (by show 2 * 0 + _ ≤ _; exact Nat.le_of_eq rfl) (hb hby at_208) (fun _ _ => ⟨rfl, rfl, (by decide : 35 + 0 ≤ _), (by decide : 383 + 0 ≤ _)⟩)
      dsimp only [Pt.U, Pt.locs, Pt.cells, Pt.slots] at X276 lu276 yu276 zu276 st276 hQ276
      subst lu276 yu276 zu276
      obtain ⟨rfl, N276q, K276q, A276q⟩ := hQ276
      have N276 := Fr.app N274 N276q
      have A276r : Arv Z T276.heap r269 k227 .byte (4 : Int32) [(.int (nar .byte ((((nar .byte (p2.toInt8.toInt32)) ^^^ (-1 : Int32)).toInt8.toInt32)))), (.int (nar .byte ((((nar .byte (p3.toInt8.toInt32)) ^^^ (-1 : Int32)).toInt8.toInt32)))), (.int (nar .byte ((((nar .byte (p4.toInt8.toInt32)) ^^^ (-1 : Int32)).toInt8.toInt32)))), (.int (nar .byte (p5.toInt8.toInt32)))] (.int 0) := A276q
      have O276 := own_extK O274 K276q (allS (Nat.le_trans O263.1 u2_269) all0)
      have KK276 : Keep h0 T276.heap [] := KK274.trans K276q (allS (Or.inr (Nat.le_trans KK263.1 u2_269)) all0)
      have Fz277 := (Safe.keep K274q (allS Fz275 all0) R272.1 Fz275)
      have R276 := R274.trans (CHr.keep K276q (allS Fz277 all0) R274.1)
      refine own_go (T276.setTop (mkF m 211 #[.val (.int p0), .val (.int p1), .val (.int p2), .val (.int p3), .val (.int p4), .val (.int p5), .val (.ref b1), .val (.ref b17), .val (.int (4 : Int32)), .val (.ref b227), .val (.ref b235), .val (.ref r269), .unset] [])) (fun t_ k_ => st276 _ k_) ?_
      refine own_go (T276.setTop (mkF m 213 #[.val (.int p0), .val (.int p1), .val (.int p2), .val (.int p3), .val (.int p4), .val (.int p5), .val (.ref b1), .val (.ref b17), .val (.int (4 : Int32)), .val (.ref b227), .val (.ref b235), .val (.ref r269), .unset] [(.ref r269)])) (fun t_ k_ => XS.aload X276.here hx rfl (hb hby at_211) rfl rfl k_) ?_
      refine own_go (T276.setTop (mkF m 214 #[.val (.int p0), .val (.int p1), .val (.int p2), .val (.int p3), .val (.int p4), .val (.int p5), .val (.ref b1), .val (.ref b17), .val (.int (4 : Int32)), .val (.ref b227), .val (.ref b235), .val (.ref r269), .unset] [(.int (3 : Int32)), (.ref r269)])) (fun t_ k_ => XS.iconst X276.here hx rfl (hb hby at_213) k_) ?_
      obtain ⟨_, _, ⟨T278, Lu278, ku278, nu278⟩, -, X278, ⟨Lc278, hQ278, lu278, yu278, zu278⟩, st278⟩ := Jvm.LawKit.callS X276 hx (y := (⟨"com/example/trailcaster/trailcaster/model/ParticipantObjectQueryPinLaw", "flip", "([BI)V"⟩ : MethodName)) hown (mvT hZ (hw _ (List.mem_of_getElem? (i := 216) rfl))) (mvT hZ (hw _ (List.mem_of_getElem? (i := 217) rfl))) (mvT hZ (hw _ (List.mem_of_getElem? (i := 73) rfl))) (mvT hZ (hw _ (List.mem_of_getElem? (i := 218) rfl))) (by decide) (backOf (W := 0) (rm_flipi l Z a0 hw [] (r269) (k227) ((4 : Int32)) ([(.int (nar .byte ((((nar .byte (p2.toInt8.toInt32)) ^^^ (-1 : Int32)).toInt8.toInt32)))), (.int (nar .byte ((((nar .byte (p3.toInt8.toInt32)) ^^^ (-1 : Int32)).toInt8.toInt32)))), (.int (nar .byte ((((nar .byte (p4.toInt8.toInt32)) ^^^ (-1 : Int32)).toInt8.toInt32)))), (.int (nar .byte (p5.toInt8.toInt32)))]) ((3 : Int32)) (3) ((nar .byte (p5.toInt8.toInt32))) T276.heap O276 A276r (by decide) (by decide) rfl (Nat.le_of_ble_eq_true rfl) (Nat.le_trans O263.1 u2_269) rfl) hZ (hw _ (List.mem_of_getElem? (i := 218) rfl)) (hw _ (List.mem_of_getElem? (i := 73) rfl)) (by decide) (by decide)) (g := (mkF m 214 #[.val (.int p0), .val (.int p1), .val (.int p2), .val (.int p3), .val (.int p4), .val (.int p5), .val (.ref b1), .val (.ref b17), .val (.int (4 : Int32)), .val (.ref b227), .val (.ref b235), .val (.ref r269), .unset] [(.int (3 : Int32)), (.ref r269)])) rfl (by rw [hml]; rfl) (argsL := [(.ref r269), (.int (3 : Int32))]) (rest := []) (lenOf own_pd19 rfl) rfl (by show 2 * 0 + _ ≤ _; exact Nat.le_of_eq rfl) (hb hby at_214) (fun _ _ => ⟨rfl, rfl, (by decide : 35 + 0 ≤ _), (by decide : 383 + 0 ≤ _)⟩)
      dsimp only [Pt.U, Pt.locs, Pt.cells, Pt.slots] at X278 lu278 yu278 zu278 st278 hQ278
      subst lu278 yu278 zu278
      obtain ⟨rfl, N278q, K278q, A278q⟩ := hQ278
      have N278 := Fr.app N276 N278q
      have A278r : Arv Z T278.heap r269 k227 .byte (4 : Int32) [(.int (nar .byte ((((nar .byte (p2.toInt8.toInt32)) ^^^ (-1 : Int32)).toInt8.toInt32)))), (.int (nar .byte ((((nar .byte (p3.toInt8.toInt32)) ^^^ (-1 : Int32)).toInt8.toInt32)))), (.int (nar .byte ((((nar .byte (p4.toInt8.toInt32)) ^^^ (-1 : Int32)).toInt8.toInt32)))), (.int (nar .byte ((((nar .byte (p5.toInt8.toInt32)) ^^^ (-1 : Int32)).toInt8.toInt32))))] (.int 0) := A278q
      have O278 := own_extK O276 K278q (allS (Nat.le_trans O263.1 u2_269) all0)
      have KK278 : Keep h0 T278.heap [] := KK276.trans K278q (allS (Or.inr (Nat.le_trans KK263.1 u2_269)) all0)
      have Fz279 := (Safe.keep K276q (allS Fz277 all0) R274.1 Fz277)
      have R278 := R276.trans (CHr.keep K278q (allS Fz279 all0) R276.1)
      refine own_go (T278.setTop (mkF m 217 #[.val (.int p0), .val (.int p1), .val (.int p2), .val (.int p3), .val (.int p4), .val (.int p5), .val (.ref b1), .val (.ref b17), .val (.int (4 : Int32)), .val (.ref b227), .val (.ref b235), .val (.ref r269), .unset] [])) (fun t_ k_ => st278 _ k_) ?_
      refine own_go (T278.setTop (mkF m 219 #[.val (.int p0), .val (.int p1), .val (.int p2), .val (.int p3), .val (.int p4), .val (.int p5), .val (.ref b1), .val (.ref b17), .val (.int (4 : Int32)), .val (.ref b227), .val (.ref b235), .val (.ref r269), .unset] [(.ref b235)])) (fun t_ k_ => XS.aload X278.here hx rfl (hb hby at_217) rfl rfl k_) ?_
      have Nz280 : b235 ≠ r269 := (Nat.ne_of_lt (Nat.lt_of_lt_of_le Fz270.lt u2_269))
      have Fz281 := (((((Fz265.keep K269q nin0).keep K272q (ninS Nz280 nin0)).keep K274q (ninS Nz280 nin0)).keep K276q (ninS Nz280 nin0)).keep K278q (ninS Nz280 nin0))
      have Fz282 := (((((Fz266.keep K269q).keep K272q).keep K274q).keep K276q).keep K278q)
      have Nz283 : r253 ≠ r269 := (Nat.ne_of_lt (Nat.lt_of_lt_of_le Fz266.lt u2_269))
      have Fz284 := (((((Fz268.keep K269q nin0).keep K272q (ninS Nz283 nin0)).keep K274q (ninS Nz283 nin0)).keep K276q (ninS Nz283 nin0)).keep K278q (ninS Nz283 nin0))
      have Fz286 := (((((Fz270.keep K269q).keep K272q).keep K274q).keep K276q).keep K278q)
      obtain ⟨cq285, kq285, q285a, q285b, q285c⟩ := isOf hZ rfl Fz286
      obtain ⟨_, _, ⟨T285, Lu285, ku285, nu285⟩, -, X285, ⟨Lc285, hQ285, lu285, yu285, zu285⟩, st285⟩ := X278.virtualBack hx (y := (⟨"com/example/trailcaster/trailcaster/model/ParticipantObject", "query", "()[B"⟩ : MethodName)) (z := (⟨"com/example/trailcaster/trailcaster/model/ParticipantObject", "query", "()[B"⟩ : MethodName)) hown (mvT hZ (hw _ (List.mem_of_getElem? (i := 219) rfl))) (mvT hZ (hw _ (List.mem_of_getElem? (i := 220) rfl))) (notFace_of_selects (args := #[]) (mvT hZ (hw _ (List.mem_of_getElem? (i := 222) rfl)))) (mvT hZ (hw _ (List.mem_of_getElem? (i := 222) rfl))) (mvT hZ (hw _ (List.mem_of_getElem? (i := 221) rfl))) (by decide) (backOf (W := 0) (rm_qyB l Z a0 hw [] (b235) (r253) (k227) ((4 : Int32)) ([(.int (nar .byte (p2.toInt8.toInt32))), (.int (nar .byte (p3.toInt8.toInt32))), (.int (nar .byte (p4.toInt8.toInt32))), (.int (nar .byte (p5.toInt8.toInt32)))]) T278.heap O278 Fz281 Fz282 Fz284 (by decide)) hZ (hw _ (List.mem_of_getElem? (i := 223) rfl)) (hw _ (List.mem_of_getElem? (i := 77) rfl)) (by decide) (by decide)) q285a q285c (g := (mkF m 219 #[.val (.int p0), .val (.int p1), .val (.int p2), .val (.int p3), .val (.int p4), .val (.int p5), .val (.ref b1), .val (.ref b17), .val (.int (4 : Int32)), .val (.ref b227), .val (.ref b235), .val (.ref r269), .unset] [(.ref b235)])) rfl (by rw [hml]; rfl) (Steps.refl _) (argsL := []) (rest := []) (lenOf own_pd20 rfl) rfl (by show 2 * 0 + _ ≤ _; exact Nat.le_of_eq rfl) (hb hby at_219) (fun _ _ => ⟨rfl, rfl, (by decide : 35 + 1 ≤ _), (by decide : 383 + 4 ≤ _)⟩)
      dsimp only [Pt.U, Pt.locs, Pt.cells, Pt.slots] at X285 lu285 yu285 zu285 st285 hQ285
      subst lu285 yu285 zu285
      obtain ⟨r285, rfl, N285q, K285q, u2_285, A285q⟩ := hQ285
      have N285 := Fr.app N278 N285q
      have Sn285 := own_snew R278.1 u2_285
      have O285 := own_extK O278 K285q all0
      have KK285 : Keep h0 T285.heap [] := KK278.trans K285q all0
      have R285 := R278.trans (CHr.keep K285q all0 R278.1)
      refine own_go (T285.setTop (mkF m 222 #[.val (.int p0), .val (.int p1), .val (.int p2), .val (.int p3), .val (.int p4), .val (.int p5), .val (.ref b1), .val (.ref b17), .val (.int (4 : Int32)), .val (.ref b227), .val (.ref b235), .val (.ref r269), .unset] [(.ref r285)])) (fun t_ k_ => st285.trans k_) ?_
      refine own_go (T285.setTop (mkF m 224 #[.val (.int p0), .val (.int p1), .val (.int p2), .val (.int p3), .val (.int p4), .val (.int p5), .val (.ref b1), .val (.ref b17), .val (.int (4 : Int32)), .val (.ref b227), .val (.ref b235), .val (.ref r269), .val (.ref r285)] [])) (fun t_ k_ => XS.astore X285.here hx rfl (hb hby at_222) rfl rfl (l' := #[.val (.int p0), .val (.int p1), .val (.int p2), .val (.int p3), .val (.int p4), .val (.int p5), .val (.ref b1), .val (.ref b17), .val (.int (4 : Int32)), .val (.ref b227), .val (.ref b235), .val (.ref r269), .val (.ref r285)]) rfl k_) ?_
      refine own_go (T285.setTop (mkF m 226 #[.val (.int p0), .val (.int p1), .val (.int p2), .val (.int p3), .val (.int p4), .val (.int p5), .val (.ref b1), .val (.ref b17), .val (.int (4 : Int32)), .val (.ref b227), .val (.ref b235), .val (.ref r269), .val (.ref r285)] [(.ref r285)])) (fun t_ k_ => XS.aload X285.here hx rfl (hb hby at_224) rfl rfl k_) ?_
      refine own_go (T285.setTop (mkF m 229 #[.val (.int p0), .val (.int p1), .val (.int p2), .val (.int p3), .val (.int p4), .val (.int p5), .val (.ref b1), .val (.ref b17), .val (.int (4 : Int32)), .val (.ref b227), .val (.ref b235), .val (.ref r269), .val (.ref r285)] [])) (fun t_ k_ => XS.ifnullNo X285.here hx rfl (hb hby at_226) rfl k_) ?_
      refine own_go (T285.setTop (mkF m 231 #[.val (.int p0), .val (.int p1), .val (.int p2), .val (.int p3), .val (.int p4), .val (.int p5), .val (.ref b1), .val (.ref b17), .val (.int (4 : Int32)), .val (.ref b227), .val (.ref b235), .val (.ref r269), .val (.ref r285)] [(.ref r285)])) (fun t_ k_ => XS.aload X285.here hx rfl (hb hby at_229) rfl rfl k_) ?_
      refine own_go (T285.setTop (mkF m 233 #[.val (.int p0), .val (.int p1), .val (.int p2), .val (.int p3), .val (.int p4), .val (.int p5), .val (.ref b1), .val (.ref b17), .val (.int (4 : Int32)), .val (.ref b227), .val (.ref b235), .val (.ref r269), .val (.ref r285)] [(.int (4 : Int32)), (.ref r285)])) (fun t_ k_ => XS.iload X285.here hx rfl (hb hby at_231) rfl k_) ?_
      refine own_go (T285.setTop (mkF m 234 #[.val (.int p0), .val (.int p1), .val (.int p2), .val (.int p3), .val (.int p4), .val (.int p5), .val (.ref b1), .val (.ref b17), .val (.int (4 : Int32)), .val (.ref b227), .val (.ref b235), .val (.ref r269), .val (.ref r285)] [(.int p2), (.int (4 : Int32)), (.ref r285)])) (fun t_ k_ => XS.iloadN X285.here hx rfl (hb hby at_233) rfl k_) ?_
      refine own_go (T285.setTop (mkF m 235 #[.val (.int p0), .val (.int p1), .val (.int p2), .val (.int p3), .val (.int p4), .val (.int p5), .val (.ref b1), .val (.ref b17), .val (.int (4 : Int32)), .val (.ref b227), .val (.ref b235), .val (.ref r269), .val (.ref r285)] [(.int p3), (.int p2), (.int (4 : Int32)), (.ref r285)])) (fun t_ k_ => XS.iloadN X285.here hx rfl (hb hby at_234) rfl k_) ?_
      refine own_go (T285.setTop (mkF m 237 #[.val (.int p0), .val (.int p1), .val (.int p2), .val (.int p3), .val (.int p4), .val (.int p5), .val (.ref b1), .val (.ref b17), .val (.int (4 : Int32)), .val (.ref b227), .val (.ref b235), .val (.ref r269), .val (.ref r285)] [(.int p4), (.int p3), (.int p2), (.int (4 : Int32)), (.ref r285)])) (fun t_ k_ => XS.iload X285.here hx rfl (hb hby at_235) rfl k_) ?_
      refine own_go (T285.setTop (mkF m 239 #[.val (.int p0), .val (.int p1), .val (.int p2), .val (.int p3), .val (.int p4), .val (.int p5), .val (.ref b1), .val (.ref b17), .val (.int (4 : Int32)), .val (.ref b227), .val (.ref b235), .val (.ref r269), .val (.ref r285)] [(.int p5), (.int p4), (.int p3), (.int p2), (.int (4 : Int32)), (.ref r285)])) (fun t_ k_ => XS.iload X285.here hx rfl (hb hby at_237) rfl k_) ?_
      obtain ⟨_, _, ⟨T287, Lu287, ku287, nu287⟩, -, X287, ⟨Lc287, hQ287, lu287, yu287, zu287⟩, st287⟩ := Jvm.LawKit.callS X285 hx (y := (⟨"com/example/trailcaster/trailcaster/model/ParticipantObjectQueryPinLaw", "same", "([BIIIII)Z"⟩ : MethodName)) hown (mvT hZ (hw _ (List.mem_of_getElem? (i := 224) rfl))) (mvT hZ (hw _ (List.mem_of_getElem? (i := 225) rfl))) (mvT hZ (hw _ (List.mem_of_getElem? (i := 73) rfl))) (mvT hZ (hw _ (List.mem_of_getElem? (i := 226) rfl))) (by decide) (backOf (W := 0) (rm_same4 l Z a0 hw [] (r285) (k227) (p2) (p3) (p4) (p5) T285.heap O285 A285q) hZ (hw _ (List.mem_of_getElem? (i := 226) rfl)) (hw _ (List.mem_of_getElem? (i := 73) rfl)) (by decide) (by decide)) (g := (mkF m 239 #[.val (.int p0), .val (.int p1), .val (.int p2), .val (.int p3), .val (.int p4), .val (.int p5), .val (.ref b1), .val (.ref b17), .val (.int (4 : Int32)), .val (.ref b227), .val (.ref b235), .val (.ref r269), .val (.ref r285)] [(.int p5), (.int p4), (.int p3), (.int p2), (.int (4 : Int32)), (.ref r285)])) rfl (by rw [hml]; rfl) (argsL := [(.ref r285), (.int (4 : Int32)), (.int p2), (.int p3), (.int p4), (.int p5)]) (rest := []) (lenOf own_pd21 rfl) rfl (by show 2 * 0 + _ ≤ _; exact Nat.le_of_eq rfl) (hb hby at_239) (fun _ _ => ⟨rfl, rfl, (by decide : 36 + 0 ≤ _), (by decide : 387 + 0 ≤ _)⟩)
      dsimp only [Pt.U, Pt.locs, Pt.cells, Pt.slots] at X287 lu287 yu287 zu287 st287 hQ287
      subst lu287 yu287 zu287
      obtain ⟨rfl, N287q, e287⟩ := hQ287
      have N287 := Fr.app N285 N287q
      refine own_go (T287.setTop (mkF m 242 #[.val (.int p0), .val (.int p1), .val (.int p2), .val (.int p3), .val (.int p4), .val (.int p5), .val (.ref b1), .val (.ref b17), .val (.int (4 : Int32)), .val (.ref b227), .val (.ref b235), .val (.ref r269), .val (.ref r285)] [(.int (1 : Int32))])) (fun t_ k_ => st287 _ k_) ?_
      refine own_go (T287.setTop (mkF m 245 #[.val (.int p0), .val (.int p1), .val (.int p2), .val (.int p3), .val (.int p4), .val (.int p5), .val (.ref b1), .val (.ref b17), .val (.int (4 : Int32)), .val (.ref b227), .val (.ref b235), .val (.ref r269), .val (.ref r285)] [])) (fun t_ k_ => XS.ifNo X287.here hx rfl (hb hby at_242) rfl ((if0 _ _).trans (feq (by decide : ¬ ((1 : Int32) = (0 : Int32)))).1) k_) ?_
      refine own_go (T287.setTop (mkF m 246 #[.val (.int p0), .val (.int p1), .val (.int p2), .val (.int p3), .val (.int p4), .val (.int p5), .val (.ref b1), .val (.ref b17), .val (.int (4 : Int32)), .val (.ref b227), .val (.ref b235), .val (.ref r269), .val (.ref r285)] [(.int (1 : Int32))])) (fun t_ k_ => XS.iconst X287.here hx rfl (hb hby at_245) k_) ?_
      refine own_go (T287.setTop (mkF m 250 #[.val (.int p0), .val (.int p1), .val (.int p2), .val (.int p3), .val (.int p4), .val (.int p5), .val (.ref b1), .val (.ref b17), .val (.int (4 : Int32)), .val (.ref b227), .val (.ref b235), .val (.ref r269), .val (.ref r285)] [(.int (1 : Int32))])) (fun t_ k_ => XS.goto X287.here hx rfl (pc0 := 246) (pc' := 250) rfl (hb hby at_246) (by decide) (by decide) k_) ?_
      obtain ⟨fs, hr, hrun, hended, hRW⟩ := X287.leaveW hS (by rw [show T287.heap = T285.heap from e287]; exact (Nat.le_trans (Nat.le_trans (Nat.le_trans (Nat.le_trans (Nat.le_trans (Nat.le_trans (Nat.le_trans (Nat.le_trans (Nat.le_trans (Nat.le_trans (Nat.le_refl _) K257q.1) K259q.1) K261q.1) K263q.1) K269q.1) K272q.1) K274q.1) K276q.1) K278q.1) K285q.1)) (v := some (.int (nar .boolean (1 : Int32)))) (fun h => by rw [Bd.returns] at h; cases h)
      refine ⟨_, _, retN X287 hx (t := .boolean) Bd.returns (by simp) (hb hby at_250) hr, hrun, hended, _, _, rfl, ?_, hRW.1, hRW.2.1, hRW.2.2.1, hRW.2.2.2.mono (by decide) (by decide)⟩
      show Q_law Z p0 p1 p2 p3 p4 p5 cs0 a_EM a_DF m_A m_L m_R h0 _ T287.heap _
      exact ⟨rfl, N287, trivial⟩
  ·
    refine own_go (T18.setTop (mkF m 30 #[.val (.int p0), .val (.int p1), .val (.int p2), .val (.int p3), .val (.int p4), .val (.int p5), .val (.ref b1), .val (.ref b17), .unset, .unset, .unset, .unset, .unset] [])) (fun t_ k_ => XS.ifNo X18.here hx rfl (hb hby at_27) rfl ((if0 _ _).trans (feq hc27_19).1) k_) ?_
    obtain ⟨T288, h288, X288, e288, E288, A288, D288, U288, st288⟩ := newO X18 hx hZ hown (hw _ (List.mem_of_getElem? (i := 75) rfl)) (hw _ (List.mem_of_getElem? (i := 76) rfl)) (hw _ (List.mem_of_getElem? (i := 77) rfl)) rfl (g := (mkF m 30 #[.val (.int p0), .val (.int p1), .val (.int p2), .val (.int p3), .val (.int p4), .val (.int p5), .val (.ref b1), .val (.ref b17), .unset, .unset, .unset, .unset, .unset] [])) rfl (hb hby at_30) (by decide) (by decide)
    obtain ⟨b288, g288⟩ : ∃ z, z = T18.heap.size := ⟨_, rfl⟩
    rw [← g288] at A288 D288 U288 st288
    have ge_b288 : Z.heap.size ≤ b288 := Nat.le_trans O18.1 (Nat.le_of_eq g288.symm)
    have sz_b288 : h0.size ≤ b288 := Nat.le_trans KK18.1 (Nat.le_of_eq g288.symm)
    have R288 := R18.trans (CHr.ext E288 R18.1)
    have Sf288 := Safe.ext (x := b288) E288 R18.1 (Safe.new (Nat.le_of_eq g288.symm))
    have K288 : Keep h0 h288 [] := KK18.ext E288
    have O288 := own_ext O18 E288
    have Fid_288 : Fld Z h288 b288 "com/example/trailcaster/trailcaster/model/ParticipantObject" "id" "Ljava/lang/String;" .null := D288 (Or.inr (hw _ (List.mem_of_getElem? (i := 201) rfl))) (ty := (.object "java/lang/String")) (by decide)
    have FtypeCode_288 : Fld Z h288 b288 "com/example/trailcaster/trailcaster/model/ParticipantObject" "typeCode" "Ljava/lang/String;" .null := D288 (Or.inr (hw _ (List.mem_of_getElem? (i := 203) rfl))) (ty := (.object "java/lang/String")) (by decide)
    have FtypeCodeRole_288 : Fld Z h288 b288 "com/example/trailcaster/trailcaster/model/ParticipantObject" "typeCodeRole" "Ljava/lang/String;" .null := D288 (Or.inr (hw _ (List.mem_of_getElem? (i := 205) rfl))) (ty := (.object "java/lang/String")) (by decide)
    have FidTypeCode_288 : Fld Z h288 b288 "com/example/trailcaster/trailcaster/model/ParticipantObject" "idTypeCode" "Lcom/example/trailcaster/trailcaster/model/CodedValue;" .null := D288 (Or.inr (hw _ (List.mem_of_getElem? (i := 207) rfl))) (ty := (.object "com/example/trailcaster/trailcaster/model/CodedValue")) (by decide)
    have Fname_288 : Fld Z h288 b288 "com/example/trailcaster/trailcaster/model/ParticipantObject" "name" "Ljava/lang/String;" .null := D288 (Or.inr (hw _ (List.mem_of_getElem? (i := 209) rfl))) (ty := (.object "java/lang/String")) (by decide)
    have Fquery_288 : Fld Z h288 b288 "com/example/trailcaster/trailcaster/model/ParticipantObject" "query" "[B" .null := D288 (Or.inr (hw _ (List.mem_of_getElem? (i := 211) rfl))) (ty := (.array .byte)) (by decide)
    have Fdetails_288 : Fld Z h288 b288 "com/example/trailcaster/trailcaster/model/ParticipantObject" "details" "Ljava/util/List;" .null := D288 (Or.inr (hw _ (List.mem_of_getElem? (i := 213) rfl))) (ty := (.object "java/util/List")) (by decide)
    have Fdescription_288 : Fld Z h288 b288 "com/example/trailcaster/trailcaster/model/ParticipantObject" "description" "Lcom/example/trailcaster/trailcaster/model/DicomObjectDescription;" .null := D288 (Or.inr (hw _ (List.mem_of_getElem? (i := 215) rfl))) (ty := (.object "com/example/trailcaster/trailcaster/model/DicomObjectDescription")) (by decide)
    refine own_go (T288.setTop (mkF m 33 #[.val (.int p0), .val (.int p1), .val (.int p2), .val (.int p3), .val (.int p4), .val (.int p5), .val (.ref b1), .val (.ref b17), .unset, .unset, .unset, .unset, .unset] [(.ref b288)])) (fun t_ k_ => st288 _ k_) ?_
    refine own_go (T288.setTop (mkF m 34 #[.val (.int p0), .val (.int p1), .val (.int p2), .val (.int p3), .val (.int p4), .val (.int p5), .val (.ref b1), .val (.ref b17), .unset, .unset, .unset, .unset, .unset] [(.ref b288), (.ref b288)])) (fun t_ k_ => XS.dup X288.here hx rfl (hb hby at_33) rfl rfl k_) ?_
    obtain ⟨a289, T289, h289, k289, t289, kb289, X289, e289, E289, hS, hk, hZ, hown, A289, C289, V289, B289, lt289, ltb289, CC289, Li289, ne289, st289⟩ := ldcCH (EL := consts_1) X288 hx hZ hown (hw _ (List.mem_of_getElem? (i := 78) rfl)) (fun d hd => hw d (own_sA d hd)) e288 hS (Nat.le_trans (Nat.le_trans (Nat.le_trans (Nat.le_refl _) E17.1) K18q.1) E288.1) hEW (List.mem_of_getElem? (i := 11) rfl) R288.1 (vs := (([105] : List Int32).map (fun c => c.toInt8.toInt32)).map Value.int) (z := 1) (by exact ⟨by decide, by rfl⟩) (by decide) (by rfl) (g := (mkF m 34 #[.val (.int p0), .val (.int p1), .val (.int p2), .val (.int p3), .val (.int p4), .val (.int p5), .val (.ref b1), .val (.ref b17), .unset, .unset, .unset, .unset, .unset] [(.ref b288), (.ref b288)])) rfl (hb hby at_34) (n := 4) (by decide) (by decide) (by decide) (by decide)
    have K289 : Keep h0 h289 [] := K288.ext E289
    have O289 := own_ext O288 E289
    have R289 := R288.trans CC289
    refine own_go (T289.setTop (mkF m 36 #[.val (.int p0), .val (.int p1), .val (.int p2), .val (.int p3), .val (.int p4), .val (.int p5), .val (.ref b1), .val (.ref b17), .unset, .unset, .unset, .unset, .unset] [(.ref a289), (.ref b288), (.ref b288)])) (fun t_ k_ => st289 _ k_) ?_
    obtain ⟨a290, T290, h290, k290, t290, kb290, X290, e290, E290, hS, hk, hZ, hown, A290, C290, V290, B290, lt290, ltb290, CC290, Li290, ne290, st290⟩ := ldcCH (EL := consts_1) X289 hx hZ hown (hw _ (List.mem_of_getElem? (i := 79) rfl)) (fun d hd => hw d (own_sA d hd)) e289 hS hk hEW (List.mem_of_getElem? (i := 12) rfl) R289.1 (vs := (([116] : List Int32).map (fun c => c.toInt8.toInt32)).map Value.int) (z := 1) (by exact ⟨by decide, by rfl⟩) (by decide) (by rfl) (g := (mkF m 36 #[.val (.int p0), .val (.int p1), .val (.int p2), .val (.int p3), .val (.int p4), .val (.int p5), .val (.ref b1), .val (.ref b17), .unset, .unset, .unset, .unset, .unset] [(.ref a289), (.ref b288), (.ref b288)])) rfl (hb hby at_36) (n := 4) (by decide) (by decide) (by decide) (by decide)
    have K290 : Keep h0 h290 [] := K289.ext E290
    have O290 := own_ext O289 E290
    have R290 := R289.trans CC290
    refine own_go (T290.setTop (mkF m 38 #[.val (.int p0), .val (.int p1), .val (.int p2), .val (.int p3), .val (.int p4), .val (.int p5), .val (.ref b1), .val (.ref b17), .unset, .unset, .unset, .unset, .unset] [(.ref a290), (.ref a289), (.ref b288), (.ref b288)])) (fun t_ k_ => st290 _ k_) ?_
    refine own_go (T290.setTop (mkF m 39 #[.val (.int p0), .val (.int p1), .val (.int p2), .val (.int p3), .val (.int p4), .val (.int p5), .val (.ref b1), .val (.ref b17), .unset, .unset, .unset, .unset, .unset] [.null, (.ref a290), (.ref a289), (.ref b288), (.ref b288)])) (fun t_ k_ => XS.aconstNull X290.here hx rfl (hb hby at_38) k_) ?_
    refine own_go (T290.setTop (mkF m 41 #[.val (.int p0), .val (.int p1), .val (.int p2), .val (.int p3), .val (.int p4), .val (.int p5), .val (.ref b1), .val (.ref b17), .unset, .unset, .unset, .unset, .unset] [(.ref b1), .null, (.ref a290), (.ref a289), (.ref b288), (.ref b288)])) (fun t_ k_ => XS.aload X290.here hx rfl (hb hby at_39) rfl rfl k_) ?_
    refine own_go (T290.setTop (mkF m 42 #[.val (.int p0), .val (.int p1), .val (.int p2), .val (.int p3), .val (.int p4), .val (.int p5), .val (.ref b1), .val (.ref b17), .unset, .unset, .unset, .unset, .unset] [(.int p2), (.ref b1), .null, (.ref a290), (.ref a289), (.ref b288), (.ref b288)])) (fun t_ k_ => XS.iloadN X290.here hx rfl (hb hby at_41) rfl k_) ?_
    refine own_go (T290.setTop (mkF m 45 #[.val (.int p0), .val (.int p1), .val (.int p2), .val (.int p3), .val (.int p4), .val (.int p5), .val (.ref b1), .val (.ref b17), .unset, .unset, .unset, .unset, .unset] [(.int (255 : Int32)), (.int p2), (.ref b1), .null, (.ref a290), (.ref a289), (.ref b288), (.ref b288)])) (fun t_ k_ => XS.sipush X290.here hx rfl (hb hby at_42) k_) ?_
    refine own_go (T290.setTop (mkF m 46 #[.val (.int p0), .val (.int p1), .val (.int p2), .val (.int p3), .val (.int p4), .val (.int p5), .val (.ref b1), .val (.ref b17), .unset, .unset, .unset, .unset, .unset] [(.int (p2 &&& (255 : Int32))), (.ref b1), .null, (.ref a290), (.ref a289), (.ref b288), (.ref b288)])) (fun t_ k_ => XS.iand X290.here hx rfl (hb hby at_45) rfl k_) ?_
    refine own_go (T290.setTop (mkF m 47 #[.val (.int p0), .val (.int p1), .val (.int p2), .val (.int p3), .val (.int p4), .val (.int p5), .val (.ref b1), .val (.ref b17), .unset, .unset, .unset, .unset, .unset] [(.int ((p2 &&& (255 : Int32)).toUInt32.toUInt16.toUInt32.toInt32)), (.ref b1), .null, (.ref a290), (.ref a289), (.ref b288), (.ref b288)])) (fun t_ k_ => XS.i2c X290.here hx rfl (hb hby at_46) rfl k_) ?_
    obtain ⟨_, _, ⟨T291, Lu291, ku291, nu291⟩, -, X291, ⟨Lc291, hQ291, lu291, yu291, zu291⟩, st291⟩ := Jvm.LawKit.callS X290 hx (y := (⟨"java/lang/String", "valueOf", "(C)Ljava/lang/String;"⟩ : MethodName)) hown (mvT hZ (hw _ (List.mem_of_getElem? (i := 230) rfl))) (mvT hZ (hw _ (List.mem_of_getElem? (i := 231) rfl))) (mvT hZ (hw _ (List.mem_of_getElem? (i := 4) rfl))) (mvT hZ (hw _ (List.mem_of_getElem? (i := 232) rfl))) (by decide) (backOf (W := 6) (rm_vo l Z a0 hw [] (((p2 &&& (255 : Int32)).toUInt32.toUInt16.toUInt32.toInt32)) (cs0) (a_EM) (a_DF) (m_A) (m_L) (m_R) h290 O290 w (own_v255 p2)) hZ (hw _ (List.mem_of_getElem? (i := 232) rfl)) (hw _ (List.mem_of_getElem? (i := 4) rfl)) (by decide) (by decide)) (g := (mkF m 47 #[.val (.int p0), .val (.int p1), .val (.int p2), .val (.int p3), .val (.int p4), .val (.int p5), .val (.ref b1), .val (.ref b17), .unset, .unset, .unset, .unset, .unset] [(.int ((p2 &&& (255 : Int32)).toUInt32.toUInt16.toUInt32.toInt32)), (.ref b1), .null, (.ref a290), (.ref a289), (.ref b288), (.ref b288)])) rfl (by rw [hml]; rfl) (argsL := [(.int ((p2 &&& (255 : Int32)).toUInt32.toUInt16.toUInt32.toInt32))]) (rest := [(.ref b1), .null, (.ref a290), (.ref a289), (.ref b288), (.ref b288)]) (lenOf own_pd22 rfl) rfl (by show 2 * 0 + _ ≤ _; exact Nat.le_of_eq rfl) (hb hby at_47) (fun _ _ => ⟨rfl, e290, (by decide : 19 + 2 ≤ _), (by decide : 186 + 5 ≤ _)⟩)
    dsimp only [Pt.U, Pt.locs, Pt.cells, Pt.slots] at X291 lu291 yu291 zu291 st291 hQ291
    subst lu291 yu291 zu291
    obtain ⟨r291, rfl, N291q, K291q⟩ := hQ291
    have N291 := Fr.app N18 N291q
    have O291 := own_extK O290 K291q all0
    have KK291 : Keep h0 T291.heap [] := K290.trans K291q all0
    have R291 := R290.trans (CHr.keep K291q all0 R290.1)
    refine own_go (T291.setTop (mkF m 50 #[.val (.int p0), .val (.int p1), .val (.int p2), .val (.int p3), .val (.int p4), .val (.int p5), .val (.ref b1), .val (.ref b17), .unset, .unset, .unset, .unset, .unset] [(.ref r291), (.ref b1), .null, (.ref a290), (.ref a289), (.ref b288), (.ref b288)])) (fun t_ k_ => st291 _ k_) ?_
    refine own_go (T291.setTop (mkF m 51 #[.val (.int p0), .val (.int p1), .val (.int p2), .val (.int p3), .val (.int p4), .val (.int p5), .val (.ref b1), .val (.ref b17), .unset, .unset, .unset, .unset, .unset] [.null, (.ref r291), (.ref b1), .null, (.ref a290), (.ref a289), (.ref b288), (.ref b288)])) (fun t_ k_ => XS.aconstNull X291.here hx rfl (hb hby at_50) k_) ?_
    refine own_go (T291.setTop (mkF m 53 #[.val (.int p0), .val (.int p1), .val (.int p2), .val (.int p3), .val (.int p4), .val (.int p5), .val (.ref b1), .val (.ref b17), .unset, .unset, .unset, .unset, .unset] [(.ref b17), .null, (.ref r291), (.ref b1), .null, (.ref a290), (.ref a289), (.ref b288), (.ref b288)])) (fun t_ k_ => XS.aload X291.here hx rfl (hb hby at_51) rfl rfl k_) ?_
    refine own_go (T291.setTop (mkF m 54 #[.val (.int p0), .val (.int p1), .val (.int p2), .val (.int p3), .val (.int p4), .val (.int p5), .val (.ref b1), .val (.ref b17), .unset, .unset, .unset, .unset, .unset] [.null, (.ref b17), .null, (.ref r291), (.ref b1), .null, (.ref a290), (.ref a289), (.ref b288), (.ref b288)])) (fun t_ k_ => XS.aconstNull X291.here hx rfl (hb hby at_53) k_) ?_
    have Fz292 := (A290.keep K291q)
    have Fz293 := (V290.keep K291q nin0)
    have Fz294 := (B290.keep K291q nin0)
    have Fz295 := (((A288.ext E289).ext E290).keep K291q)
    have Fz296 := (((Fid_288.ext E289).ext E290).keep K291q nin0)
    have Fz297 := (((FtypeCode_288.ext E289).ext E290).keep K291q nin0)
    have Fz298 := (((FtypeCodeRole_288.ext E289).ext E290).keep K291q nin0)
    have Fz299 := (((FidTypeCode_288.ext E289).ext E290).keep K291q nin0)
    have Fz300 := (((Fname_288.ext E289).ext E290).keep K291q nin0)
    have Fz301 := (((Fquery_288.ext E289).ext E290).keep K291q nin0)
    have Fz302 := (((Fdetails_288.ext E289).ext E290).keep K291q nin0)
    have Fz303 := (((Fdescription_288.ext E289).ext E290).keep K291q nin0)
    have Fz304 := ((((X18q.ext E288).ext E289).ext E290).keep K291q)
    have Fz305 := ((((M18q.ext E288).ext E289).ext E290).keep K291q nin0)
    have Fz306 := ((((S18q.ext E288).ext E289).ext E290).keep K291q nin0)
    obtain ⟨_, _, ⟨T307, Lu307, ku307, nu307⟩, -, X307, hS307, hg307, ⟨Lc307, hQ307, lu307, yu307, zu307, C307⟩, st307⟩ := X291.specialBackS hx (y := (⟨"com/example/trailcaster/trailcaster/model/ParticipantObject", "<init>", "(Ljava/lang/String;Ljava/lang/String;Ljava/lang/String;Lcom/example/trailcaster/trailcaster/model/CodedValue;Ljava/lang/String;[BLjava/util/List;Lcom/example/trailcaster/trailcaster/model/DicomObjectDescription;)V"⟩ : MethodName)) rfl hown (mvT hZ (hw _ (List.mem_of_getElem? (i := 80) rfl))) (mvT hZ (hw _ (List.mem_of_getElem? (i := 81) rfl))) (mvT hZ (hw _ (List.mem_of_getElem? (i := 82) rfl))) (by decide) (backOfSH (W := 1) (rm_poA l Z a0 hw [] (b288) (a289) (b1) (b17) (a290) (t290) (kb290) (_) (r291) (cs0) (a_EM) (a_DF) (m_A) (m_L) (m_R) T291.heap O291 w Fz295 Fz296 Fz297 Fz298 Fz299 Fz300 Fz301 Fz302 Fz303 ge_b288 Fz304 Fz305 Fz306 Fz292 Fz293 Fz294) hZ (hw _ (List.mem_of_getElem? (i := 82) rfl)) (hw _ (List.mem_of_getElem? (i := 77) rfl)) (by decide) (by decide) hEW R291.1) (g := (mkF m 54 #[.val (.int p0), .val (.int p1), .val (.int p2), .val (.int p3), .val (.int p4), .val (.int p5), .val (.ref b1), .val (.ref b17), .unset, .unset, .unset, .unset, .unset] [.null, (.ref b17), .null, (.ref r291), (.ref b1), .null, (.ref a290), (.ref a289), (.ref b288), (.ref b288)])) rfl (by rw [hml]; rfl) (Steps.refl _) (a := b288) (argsL := [(.ref a289), (.ref a290), .null, (.ref b1), (.ref r291), .null, (.ref b17), .null]) (rest := [(.ref b288)]) (lenOf own_pd18 rfl) rfl (by show 2 * 0 + _ ≤ _; exact Nat.le_of_eq rfl) (hb hby at_54) (fun _ _ => ⟨rfl, rfl, (by decide : 21 + 13 ≤ _), (by decide : 191 + 185 ≤ _)⟩)
    dsimp only [Pt.U, Pt.locs, Pt.cells, Pt.slots] at X307 lu307 yu307 zu307 st307 hQ307 hS307 hg307 C307
    subst lu307 yu307 zu307
    obtain ⟨X307, hS, hZ, hown⟩ := rebS hS (by rw [show T291.heap = T291.heap from rfl]; exact (Nat.le_trans hk K291q.1)) X307 hS307 hg307 hZ hown
    have R307 := R291.trans C307
    obtain ⟨rfl, N307q, K307q, X307q, F307q⟩ := hQ307
    have N307 := Fr.app N291 N307q
    have O307 := own_extK O291 K307q (allS ge_b288 all0)
    have KK307 : Keep h0 T307.heap [] := KK291.trans K307q (allS (Or.inr sz_b288) all0)
    have Fz308 := (Safe.keep K291q all0 R290.1 (CC290.safe (A288.ext E289).lt (CC289.safe A288.lt Sf288)))
    refine own_go (T307.setTop (mkF m 57 #[.val (.int p0), .val (.int p1), .val (.int p2), .val (.int p3), .val (.int p4), .val (.int p5), .val (.ref b1), .val (.ref b17), .unset, .unset, .unset, .unset, .unset] [(.ref b288)])) (fun t_ k_ => st307.trans k_) ?_
    refine own_go (T307.setTop (mkF m 59 #[.val (.int p0), .val (.int p1), .val (.int p2), .val (.int p3), .val (.int p4), .val (.int p5), .val (.ref b1), .val (.ref b17), .val (.ref b288), .unset, .unset, .unset, .unset] [])) (fun t_ k_ => XS.astore X307.here hx rfl (hb hby at_57) rfl rfl (l' := #[.val (.int p0), .val (.int p1), .val (.int p2), .val (.int p3), .val (.int p4), .val (.int p5), .val (.ref b1), .val (.ref b17), .val (.ref b288), .unset, .unset, .unset, .unset]) rfl k_) ?_
    refine own_go (T307.setTop (mkF m 61 #[.val (.int p0), .val (.int p1), .val (.int p2), .val (.int p3), .val (.int p4), .val (.int p5), .val (.ref b1), .val (.ref b17), .val (.ref b288), .unset, .unset, .unset, .unset] [(.ref b288)])) (fun t_ k_ => XS.aload X307.here hx rfl (hb hby at_59) rfl rfl k_) ?_
    obtain ⟨cq309, kq309, q309a, q309b, q309c⟩ := isOf hZ rfl X307q
    obtain ⟨_, _, ⟨T309, Lu309, ku309, nu309⟩, -, X309, ⟨Lc309, hQ309, lu309, yu309, zu309⟩, st309⟩ := X307.virtualBack hx (y := (⟨"com/example/trailcaster/trailcaster/model/ParticipantObject", "query", "()[B"⟩ : MethodName)) (z := (⟨"com/example/trailcaster/trailcaster/model/ParticipantObject", "query", "()[B"⟩ : MethodName)) hown (mvT hZ (hw _ (List.mem_of_getElem? (i := 219) rfl))) (mvT hZ (hw _ (List.mem_of_getElem? (i := 220) rfl))) (notFace_of_selects (args := #[]) (mvT hZ (hw _ (List.mem_of_getElem? (i := 222) rfl)))) (mvT hZ (hw _ (List.mem_of_getElem? (i := 222) rfl))) (mvT hZ (hw _ (List.mem_of_getElem? (i := 221) rfl))) (by decide) (backOf (W := 0) (rm_qyA l Z a0 hw [] (b288) T307.heap O307 F307q) hZ (hw _ (List.mem_of_getElem? (i := 223) rfl)) (hw _ (List.mem_of_getElem? (i := 77) rfl)) (by decide) (by decide)) q309a q309c (g := (mkF m 61 #[.val (.int p0), .val (.int p1), .val (.int p2), .val (.int p3), .val (.int p4), .val (.int p5), .val (.ref b1), .val (.ref b17), .val (.ref b288), .unset, .unset, .unset, .unset] [(.ref b288)])) rfl (by rw [hml]; rfl) (Steps.refl _) (argsL := []) (rest := []) (lenOf own_pd20 rfl) rfl (by show 2 * 0 + _ ≤ _; exact Nat.le_of_eq rfl) (hb hby at_61) (fun _ _ => ⟨rfl, rfl, (by decide : 34 + 0 ≤ _), (by decide : 376 + 0 ≤ _)⟩)
    dsimp only [Pt.U, Pt.locs, Pt.cells, Pt.slots] at X309 lu309 yu309 zu309 st309 hQ309
    subst lu309 yu309 zu309
    obtain ⟨rfl, N309q, e309⟩ := hQ309
    have N309 := Fr.app N307 N309q
    refine own_go (T309.setTop (mkF m 64 #[.val (.int p0), .val (.int p1), .val (.int p2), .val (.int p3), .val (.int p4), .val (.int p5), .val (.ref b1), .val (.ref b17), .val (.ref b288), .unset, .unset, .unset, .unset] [.null])) (fun t_ k_ => st309.trans k_) ?_
    refine own_go (T309.setTop (mkF m 67 #[.val (.int p0), .val (.int p1), .val (.int p2), .val (.int p3), .val (.int p4), .val (.int p5), .val (.ref b1), .val (.ref b17), .val (.ref b288), .unset, .unset, .unset, .unset] [])) (fun t_ k_ => XS.ifnonnullNo X309.here hx rfl (hb hby at_64) rfl k_) ?_
    refine own_go (T309.setTop (mkF m 68 #[.val (.int p0), .val (.int p1), .val (.int p2), .val (.int p3), .val (.int p4), .val (.int p5), .val (.ref b1), .val (.ref b17), .val (.ref b288), .unset, .unset, .unset, .unset] [(.int (1 : Int32))])) (fun t_ k_ => XS.iconst X309.here hx rfl (hb hby at_67) k_) ?_
    refine own_go (T309.setTop (mkF m 72 #[.val (.int p0), .val (.int p1), .val (.int p2), .val (.int p3), .val (.int p4), .val (.int p5), .val (.ref b1), .val (.ref b17), .val (.ref b288), .unset, .unset, .unset, .unset] [(.int (1 : Int32))])) (fun t_ k_ => XS.goto X309.here hx rfl (pc0 := 68) (pc' := 72) rfl (hb hby at_68) (by decide) (by decide) k_) ?_
    obtain ⟨fs, hr, hrun, hended, hRW⟩ := X309.leaveW hS (by rw [show T309.heap = T307.heap from e309]; exact (Nat.le_refl _)) (v := some (.int (nar .boolean (1 : Int32)))) (fun h => by rw [Bd.returns] at h; cases h)
    refine ⟨_, _, retN X309 hx (t := .boolean) Bd.returns (by simp) (hb hby at_72) hr, hrun, hended, _, _, rfl, ?_, hRW.1, hRW.2.1, hRW.2.2.1, hRW.2.2.2.mono (by decide) (by decide)⟩
    show Q_law Z p0 p1 p2 p3 p4 p5 cs0 a_EM a_DF m_A m_L m_R h0 _ T309.heap _
    exact ⟨rfl, N309, trivial⟩
set_option maxRecDepth 65536 in
set_option maxHeartbeats 40000000 in
theorem comes_1 {Post : Tables → Env → Array Value → State → Outcome → State → Prop} (hpost : ∀ tb e args s v u, (limb_1_1.after args s (.returned v) u = true ∧ limb_1_2.after args s (.returned v) u = true ∧ True) → ReturnedEndW s (.returned v) u (Jvm.fieldLocs frame_1_writes args s ++ Jvm.arrayLocs frame_1_arrays args s ++ Jvm.staticLocs frame_1_statics s) 56 13568 → Post tb e args s (.returned v) u) :
    ArmFor flags0 classFile x code maxLocals ret World_1 tables_1 room_1 Calls_1 rest_1 Pre_1 Post := by
  intro l hfl _ _ p e ha hc hk s m args below hf hA hF happ hP
  obtain ⟨hcalls, hrest, hpre⟩ := hP
  obtain ⟨-, -, -, hnamed, -, -, -, hat⟩ := (Spec.applies_iff hf).mp happ
  obtain ⟨hg, hn⟩ := and_e (Cond.before_iff.mp (show (Jvm.Cond.and given_1 narrow_1).before args s = true from hpre))
  obtain ⟨g1, g2⟩ := and_e hg
  obtain ⟨g3, g4⟩ := and_e g2
  obtain ⟨g5, g6⟩ := and_e g4
  obtain ⟨g7, g8⟩ := and_e g6
  obtain ⟨g9, g10⟩ := and_e g8
  obtain ⟨g11, g12⟩ := and_e g10
  obtain ⟨w0, w1, w2, w3, w4, w5, rfl⟩ : ∃ w0 w1 w2 w3 w4 w5 : Value, args = #[w0, w1, w2, w3, w4, w5] := by
    have hs : args.size = 6 := by simpa [Cond.value, given_1] using g1
    obtain ⟨L⟩ := args
    match L, hs with
    | [w0, w1, w2, w3, w4, w5], _ => exact ⟨w0, w1, w2, w3, w4, w5, rfl⟩
  have hw := fun d (hd : d ∈ tables_1) => atoms_spec (ws := Jvm.Cond.code x code maxLocals ret :: tables_1) hat d (List.mem_cons_of_mem _ hd)
  have hfit : Fit s := fun {y c} hc i hi => by
    obtain ⟨ha, rfl⟩ := Array.getElem?_eq_some_iff.mp hc
    have q := List.all_eq_true.mp ((Array.all_eq_true_iff_forall_mem.mp hF) _ (Array.getElem_mem ha)) i (List.mem_range.mpr hi)
    simpa [Array.getElem?_eq_getElem hi] using q
  obtain ⟨hsets, hown0⟩ := atoms_of _ (rest_1_c_eq ▸ (show rest_1_c.before _ s = true from hrest))
  have hr0 := Cond.before_iff.mp hown0
  obtain ⟨i0, ei0⟩ := is_v g3
  obtain rfl : w0 = (.int i0) := Option.some.inj ei0
  obtain ⟨i1, ei1⟩ := is_v g5
  obtain rfl : w1 = (.int i1) := Option.some.inj ei1
  obtain ⟨i2, ei2⟩ := is_v g7
  obtain rfl : w2 = (.int i2) := Option.some.inj ei2
  obtain ⟨i3, ei3⟩ := is_v g9
  obtain rfl : w3 = (.int i3) := Option.some.inj ei3
  obtain ⟨i4, ei4⟩ := is_v g11
  obtain rfl : w4 = (.int i4) := Option.some.inj ei4
  obtain ⟨i5, ei5⟩ := is_v g12
  obtain rfl : w5 = (.int i5) := Option.some.inj ei5
  obtain ⟨cs0, ev_CS⟩ := is_v (Cond.before_iff.mp (hsets _ (List.mem_of_getElem? (i := 10) rfl)))
  have S_CS : Sta s s.heap "java/lang/String" "COMPACT_STRINGS" "Z" (.int cs0) := Sta.start ev_CS (Or.inl (hsets _ (List.mem_of_getElem? (i := 9) rfl)))
  have n_CS : ¬ (cs0 = (0 : Int32)) := gotF (Cond.eq_ints ev_CS (Term.int_eval (0))) (not_v (Cond.before_iff.mp (hsets _ (List.mem_of_getElem? (i := 11) rfl))))
  obtain ⟨a_EM, ev_EM⟩ := arr_v (Cond.before_iff.mp (hsets _ (List.mem_of_getElem? (i := 3) rfl)))
  have S_EM : Sta s s.heap "java/util/ArrayList" "EMPTY_ELEMENTDATA" "[Ljava/lang/Object;" (.ref a_EM) := Sta.start ev_EM (Or.inr ⟨(hw _ (List.mem_of_getElem? (i := 48) rfl)), (hsets _ (List.mem_of_getElem? (i := 0) rfl))⟩)
  obtain ⟨a_DF, ev_DF⟩ := arr_v (Cond.before_iff.mp (hsets _ (List.mem_of_getElem? (i := 6) rfl)))
  have S_DF : Sta s s.heap "java/util/ArrayList" "DEFAULTCAPACITY_EMPTY_ELEMENTDATA" "[Ljava/lang/Object;" (.ref a_DF) := Sta.start ev_DF (Or.inr ⟨(hw _ (List.mem_of_getElem? (i := 48) rfl)), (hsets _ (List.mem_of_getElem? (i := 2) rfl))⟩)
  obtain ⟨_, _, m_A, f1_A, f2_A, f3_A⟩ := (hcalls.1 : Jvm.D.MirrorMade s "java/util/ArrayList")
  have M_A : own_mir s "java/util/ArrayList" m_A := ⟨_, _, f1_A, f2_A, f3_A.1⟩
  obtain ⟨_, _, m_L, f1_L, f2_L, f3_L⟩ := (hcalls.2.1 : Jvm.D.MirrorMade s "java/util/Collections$UnmodifiableList")
  have M_L : own_mir s "java/util/Collections$UnmodifiableList" m_L := ⟨_, _, f1_L, f2_L, f3_L.1⟩
  obtain ⟨_, _, m_R, f1_R, f2_R, f3_R⟩ := (hcalls.2.2.1 : Jvm.D.MirrorMade s "java/util/Collections$UnmodifiableRandomAccessList")
  have M_R : own_mir s "java/util/Collections$UnmodifiableRandomAccessList" m_R := ⟨_, _, f1_R, f2_R, f3_R.1⟩
  have hCH : CHv s consts_1 s.vm s.heap := CHv.start (own_EW hw) (fun q hq => hcalls.2.2.2.1 q hq) (hsets _ (List.mem_of_getElem? (i := 11) rfl)) (hw _ (List.mem_of_getElem? (i := 6) rfl)) (hw _ (List.mem_of_getElem? (i := 5) rfl))
  obtain ⟨n, o, h1, h2, h3, _, L, rfl, ⟨rfl, N, -⟩, hq⟩ := rm_law l s _ hw tables_1 i0 i1 i2 i3 i4 i5 cs0 a_EM a_DF m_A m_L m_R s.heap ⟨Nat.le_refl _, fun _ _ q => q⟩ ⟨S_CS, n_CS, S_EM, S_DF, M_A, M_L, M_R⟩  p e ha hc hk s m _ below hf ((Spec.applies_iff_loose hf).mp happ).1 ⟨rfl, State.Warmed39.refl s, rfl, hCH⟩ trivial
  refine ⟨n, _, h1, h2, h3, hpost _ _ _ _ _ _ ⟨Cond.after_iff.mpr rfl, Cond.after_iff.mpr (eq_i res_at (Term.int_eval (1)) rfl), trivial⟩ ⟨hq.1, hq.2.1, hq.2.2.1, (hq.2.2.2.sift fun y hy => Or.inr (N y hy)).mono (by decide) (by decide)⟩⟩
theorem main_1_1 : Claimed_1_1 := comes_1 fun _ _ _ _ _ _ h hF => ⟨h.1, hF⟩
theorem main_1_2 : Claimed_1_2 := comes_1 fun _ _ _ _ _ _ h hF => ⟨h.2.1, hF⟩
end Jvm.Pilot.@@N@@
namespace Jvm.Pilot.@@N@@
open Jvm Jvm.ClassFile Sem Op Lib Jvm.Free Jvm.Stand Jvm.Pilot.@@N@@.Jvm.D
/-! MADE BY PROGRAM (witnessworld.py) out of the Statement's table words and the real class files: 36 classes; the members and pool entries that the words name. The judged class is class 1, her method 1. -/
namespace start1
open Jvm.ClassFile
def u (s : String) : CpInfo := .utf8 (stringToUtf16 s)
/-- a pool by its gaps: so many unusable entries, then the entry; so many at the end -/
def gap : Nat → List CpInfo → List CpInfo
  | 0, r => r
  | n + 1, r => .unusable :: gap n r
def poolList (es : List (Nat × CpInfo)) (last : Nat) : List CpInfo := es.foldr (fun e r => gap e.1 (e.2 :: r)) (gap last [])
def pool (es : List (Nat × CpInfo)) (last : Nat) : Array CpInfo := ⟨poolList es last⟩
def fileOf (pool : Array CpInfo) (this : Nat) (attrs : Array Attribute := #[]) (ms : Array MethodInfo := #[]) (fl : Nat := 33) (sup : Nat := 0) (ifs : Array Nat := #[]) (fds : Array FieldInfo := #[]) : ClassFile where
  minorVersion := 0
  majorVersion := 65
  constantPool := pool
  accessFlags := fl
  thisClass := this
  superClass := sup
  interfaces := ifs
  fields := fds
  methods := ms
  attributes := attrs
def plain (name : String) (sup : Option ClassId) : Class where
  name := name
  kind := .ordinary
  loader := none
  accessFlags := 33
  super := sup
  interfaces := #[]
  cf := none
  fields := #[]
  methods := #[]
  instanceTypes := #[]
  staticTypes := #[]
  resolved := #[]
  callSites := []
  init := .initialized
  statics := none
  mirror := none

def pool0 : Array CpInfo := pool [(5, u "<init>"), (0, u "()V"), (1, .class_ 10), (1, u "java/lang/Object"), (0, u "getClass"), (0, u "()Ljava/lang/Class;"), (83, u "clone"), (0, u "()Ljava/lang/Object;")] 26

def k0c0 : Code := { maxStack := 0, maxLocals := 1, code := object_method_1_code, exceptionTable := #[], attributes := #[] }
def k0m0 : Method := { name := "<init>", desc := "()V", sig := { parameters := [], returnType := none }, accessFlags := 1, code := some k0c0 }
def k0m1 : Method := { name := "getClass", desc := "()Ljava/lang/Class;", sig := { parameters := [], returnType := some (.object "java/lang/Class") }, accessFlags := 273, code := none }
def k0m2 : Method := { name := "clone", desc := "()Ljava/lang/Object;", sig := { parameters := [], returnType := some (.object "java/lang/Object") }, accessFlags := 260, code := none }
/-- java/lang/Object -/
def k0 : Class := { plain "java/lang/Object" none with
  accessFlags := 33
  interfaces := #[]
  cf := some (fileOf pool0 8 #[] #[{ accessFlags := 1, nameIndex := 5, descriptorIndex := 6, attributes := #[] }, { accessFlags := 273, nameIndex := 11, descriptorIndex := 12, attributes := #[] }, { accessFlags := 260, nameIndex := 96, descriptorIndex := 97, attributes := #[] }] 33 0 #[] #[])
  fields := #[]
  methods := #[k0m0, k0m1, k0m2]
  instanceTypes := #[]
  staticTypes := #[]
  resolved := Array.replicate 124 none
  statics := none }

def pool1 : Array CpInfo := pool [(2, .class_ 4), (0, .nameAndType 5 6), (0, u "java/lang/Object"), (0, u "<init>"), (0, u "()V"), (0, .class_ 8), (0, u "com/example/trailcaster/trailcaster/model/CodedValue"), (0, .string 10), (0, u "c"), (0, .string 12), (0, u "s"), (0, .string 14), (0, u "o"), (0, .methodref 7 16), (0, .nameAndType 5 17), (0, u "(Ljava/lang/String;Ljava/lang/String;Ljava/lang/String;)V"), (0, .class_ 19), (0, u "java/util/ArrayList"), (0, .methodref 18 3), (0, .class_ 22), (0, u "com/example/trailcaster/trailcaster/model/ParticipantObject"), (0, .string 24), (0, u "i"), (0, .string 26), (0, u "t"), (0, .methodref 28 29), (0, .class_ 30), (0, .nameAndType 31 32), (0, u "java/lang/String"), (0, u "valueOf"), (0, u "(C)Ljava/lang/String;"), (0, .methodref 21 34), (0, .nameAndType 5 35), (0, u "(Ljava/lang/String;Ljava/lang/String;Ljava/lang/String;Lcom/example/trailcaster/trailcaster/model/CodedValue;Ljava/lang/String;[BLjava/util/List;Lcom/example/trailcaster/trailcaster/model/DicomObjectDescription;)V"), (0, .methodref 21 37), (0, .nameAndType 38 39), (0, u "query"), (0, u "()[B"), (0, .integer 2147483647), (0, .methodref 42 43), (0, .class_ 44), (0, .nameAndType 45 46), (0, u "com/example/trailcaster/trailcaster/model/ParticipantObjectQueryPinLaw"), (0, u "set"), (0, u "([BII)V"), (0, .methodref 42 48), (0, .nameAndType 49 50), (0, u "flip"), (0, u "([BI)V"), (0, .methodref 42 52), (0, .nameAndType 53 54), (0, u "same"), (0, u "([BIIIII)Z"), (0, .methodref 42 56), (0, .nameAndType 57 58), (0, u "at"), (0, u "([BII)Z"), (2, u "law"), (0, u "(IIIIII)Z")] 5

def k1m0 : Method := { name := "<init>", desc := "()V", sig := { parameters := [], returnType := none }, accessFlags := 1, code := none }
def k1c1 : Code := { maxStack := 10, maxLocals := 13, code := code, exceptionTable := #[], attributes := #[] }
def k1m1 : Method := { name := "law", desc := "(IIIIII)Z", sig := { parameters := [.int, .int, .int, .int, .int, .int], returnType := some .boolean }, accessFlags := 9, code := some k1c1 }
def k1c2 : Code := { maxStack := 3, maxLocals := 3, code := method_3_code, exceptionTable := #[], attributes := #[] }
def k1m2 : Method := { name := "set", desc := "([BII)V", sig := { parameters := [(.array .byte), .int, .int], returnType := none }, accessFlags := 10, code := some k1c2 }
def k1c3 : Code := { maxStack := 4, maxLocals := 2, code := method_4_code, exceptionTable := #[], attributes := #[] }
def k1m3 : Method := { name := "flip", desc := "([BI)V", sig := { parameters := [(.array .byte), .int], returnType := none }, accessFlags := 10, code := some k1c3 }
def k1c4 : Code := { maxStack := 2, maxLocals := 3, code := method_5_code, exceptionTable := #[], attributes := #[] }
def k1m4 : Method := { name := "at", desc := "([BII)Z", sig := { parameters := [(.array .byte), .int, .int], returnType := some .boolean }, accessFlags := 10, code := some k1c4 }
def k1c5 : Code := { maxStack := 3, maxLocals := 6, code := method_6_code, exceptionTable := #[], attributes := #[] }
def k1m5 : Method := { name := "same", desc := "([BIIIII)Z", sig := { parameters := [(.array .byte), .int, .int, .int, .int, .int], returnType := some .boolean }, accessFlags := 10, code := some k1c5 }
/-- com/example/trailcaster/trailcaster/model/ParticipantObjectQueryPinLaw -/
def k1 : Class := { plain "com/example/trailcaster/trailcaster/model/ParticipantObjectQueryPinLaw" (some 0) with
  accessFlags := 49
  interfaces := #[]
  cf := some (fileOf pool1 42 #[] #[{ accessFlags := 1, nameIndex := 5, descriptorIndex := 6, attributes := #[] }, { accessFlags := 9, nameIndex := 61, descriptorIndex := 62, attributes := #[] }, { accessFlags := 10, nameIndex := 45, descriptorIndex := 46, attributes := #[] }, { accessFlags := 10, nameIndex := 49, descriptorIndex := 50, attributes := #[] }, { accessFlags := 10, nameIndex := 57, descriptorIndex := 58, attributes := #[] }, { accessFlags := 10, nameIndex := 53, descriptorIndex := 54, attributes := #[] }] 49 2 #[] #[])
  fields := #[]
  methods := #[k1m0, k1m1, k1m2, k1m3, k1m4, k1m5]
  instanceTypes := #[]
  staticTypes := #[]
  resolved := Array.replicate 68 none
  statics := none }

def pool2 : Array CpInfo := pool [(1, .methodref 2 3), (0, .class_ 4), (0, .nameAndType 5 6), (0, u "java/lang/Object"), (0, u "<init>"), (0, u "()V"), (0, .class_ 8), (0, u "java/lang/Record")] 13

def k2c0 : Code := { maxStack := 1, maxLocals := 1, code := jdk_30_method_1_code, exceptionTable := #[], attributes := #[] }
def k2m0 : Method := { name := "<init>", desc := "()V", sig := { parameters := [], returnType := none }, accessFlags := 4, code := some k2c0 }
/-- java/lang/Record -/
def k2 : Class := { plain "java/lang/Record" (some 0) with
  accessFlags := 1057
  interfaces := #[]
  cf := some (fileOf pool2 7 #[] #[{ accessFlags := 4, nameIndex := 5, descriptorIndex := 6, attributes := #[] }] 1057 2 #[] #[])
  fields := #[]
  methods := #[k2m0]
  instanceTypes := #[]
  staticTypes := #[]
  resolved := Array.replicate 22 none
  statics := none }

def pool3 : Array CpInfo := pool [(1, .methodref 2 3), (0, .class_ 4), (0, .nameAndType 5 6), (0, u "java/lang/Record"), (0, u "<init>"), (0, u "()V"), (0, .string 8), (0, u "code"), (0, .methodref 10 11), (0, .class_ 12), (0, .nameAndType 13 14), (0, u "com/example/trailcaster/trailcaster/model/Checks"), (0, u "text"), (0, u "(Ljava/lang/String;Ljava/lang/String;)Ljava/lang/String;"), (0, .string 16), (0, u "codeSystemName"), (0, .string 18), (0, u "originalText"), (0, .fieldref 20 21), (0, .class_ 22), (0, .nameAndType 8 23), (0, u "com/example/trailcaster/trailcaster/model/CodedValue"), (0, u "Ljava/lang/String;"), (0, .fieldref 20 25), (0, .nameAndType 16 23), (0, .fieldref 20 27), (0, .nameAndType 18 23), (12, u "(Ljava/lang/String;Ljava/lang/String;Ljava/lang/String;)V")] 28

def k3c0 : Code := { maxStack := 2, maxLocals := 4, code := prog_45_method_1_code, exceptionTable := #[], attributes := #[] }
def k3m0 : Method := { name := "<init>", desc := "(Ljava/lang/String;Ljava/lang/String;Ljava/lang/String;)V", sig := { parameters := [(.object "java/lang/String"), (.object "java/lang/String"), (.object "java/lang/String")], returnType := none }, accessFlags := 1, code := some k3c0 }
/-- com/example/trailcaster/trailcaster/model/CodedValue -/
def k3 : Class := { plain "com/example/trailcaster/trailcaster/model/CodedValue" (some 2) with
  accessFlags := 49
  interfaces := #[]
  cf := some (fileOf pool3 20 #[] #[{ accessFlags := 1, nameIndex := 5, descriptorIndex := 40, attributes := #[] }] 49 2 #[] #[{ accessFlags := 18, nameIndex := 8, descriptorIndex := 23, attributes := #[] }, { accessFlags := 18, nameIndex := 16, descriptorIndex := 23, attributes := #[] }, { accessFlags := 18, nameIndex := 18, descriptorIndex := 23, attributes := #[] }])
  fields := #[{ name := "code", type := (.object "java/lang/String"), accessFlags := 18, slot := 0, constantValue := 0 }, { name := "codeSystemName", type := (.object "java/lang/String"), accessFlags := 18, slot := 1, constantValue := 0 }, { name := "originalText", type := (.object "java/lang/String"), accessFlags := 18, slot := 2, constantValue := 0 }]
  methods := #[k3m0]
  instanceTypes := #[(.object "java/lang/String"), (.object "java/lang/String"), (.object "java/lang/String")]
  staticTypes := #[]
  resolved := Array.replicate 69 none
  statics := none }

def pool4 : Array CpInfo := pool [(1, .class_ 2), (0, u "java/io/Serializable"), (0, .class_ 4), (0, u "java/lang/Object")] 2

/-- java/io/Serializable -/
def k4 : Class := { plain "java/io/Serializable" (some 0) with
  accessFlags := 1537
  interfaces := #[]
  cf := some (fileOf pool4 1 #[] #[] 1537 3 #[] #[])
  fields := #[]
  methods := #[]
  instanceTypes := #[]
  staticTypes := #[]
  resolved := Array.replicate 7 none
  statics := none }

def pool5 : Array CpInfo := pool [(1, .class_ 2), (0, u "java/lang/Comparable"), (0, .class_ 4), (0, u "java/lang/Object")] 7

/-- java/lang/Comparable -/
def k5 : Class := { plain "java/lang/Comparable" (some 0) with
  accessFlags := 1537
  interfaces := #[]
  cf := some (fileOf pool5 1 #[] #[] 1537 3 #[] #[])
  fields := #[]
  methods := #[]
  instanceTypes := #[]
  staticTypes := #[]
  resolved := Array.replicate 12 none
  statics := none }

def pool6 : Array CpInfo := pool [(2, .class_ 4), (1, u "java/lang/CharSequence"), (42, .class_ 48), (0, u "java/lang/CharSequence$1CodePointIterator"), (10, .class_ 60), (0, u "java/lang/CharSequence$1CharIterator"), (5, .class_ 67), (0, u "java/lang/Object")] 63

/-- java/lang/CharSequence -/
def k6 : Class := { plain "java/lang/CharSequence" (some 0) with
  accessFlags := 1537
  interfaces := #[]
  cf := some (fileOf pool6 2 #[.nestMembers #[47, 59]] #[] 1537 66 #[] #[])
  fields := #[]
  methods := #[]
  instanceTypes := #[]
  staticTypes := #[]
  resolved := Array.replicate 131 none
  statics := none }

def pool7 : Array CpInfo := pool [(1, .class_ 2), (0, u "java/lang/constant/Constable"), (0, .class_ 4), (0, u "java/lang/Object")] 6

/-- java/lang/constant/Constable -/
def k7 : Class := { plain "java/lang/constant/Constable" (some 0) with
  accessFlags := 1537
  interfaces := #[]
  cf := some (fileOf pool7 1 #[] #[] 1537 3 #[] #[])
  fields := #[]
  methods := #[]
  instanceTypes := #[]
  staticTypes := #[]
  resolved := Array.replicate 11 none
  statics := none }

def pool8 : Array CpInfo := pool [(1, .class_ 2), (0, u "java/lang/constant/ConstantDesc"), (0, .class_ 4), (0, u "java/lang/Object")] 32

/-- java/lang/constant/ConstantDesc -/
def k8 : Class := { plain "java/lang/constant/ConstantDesc" (some 0) with
  accessFlags := 1537
  interfaces := #[]
  cf := some (fileOf pool8 1 #[] #[] 1537 3 #[] #[])
  fields := #[]
  methods := #[]
  instanceTypes := #[]
  staticTypes := #[]
  resolved := Array.replicate 37 none
  statics := none }

def pool9 : Array CpInfo := pool [(1, .methodref 2 3), (0, .class_ 4), (0, .nameAndType 5 6), (0, u "java/lang/Object"), (0, u "<init>"), (0, u "()V"), (2, .fieldref 10 11), (0, .class_ 12), (0, .nameAndType 13 14), (0, u "java/lang/String"), (0, u "value"), (0, u "[B"), (0, .fieldref 10 16), (0, .nameAndType 17 18), (0, u "coder"), (0, u "B"), (2, u "hash"), (0, u "I"), (2, u "hashIsZero"), (0, u "Z"), (11, .fieldref 10 39), (0, .nameAndType 40 26), (0, u "COMPACT_STRINGS"), (12, u "toBytes"), (53, .class_ 109), (1, u "java/lang/StringLatin1"), (32, u "()Z"), (66, .methodref 10 210), (0, .nameAndType 5 211), (0, u "([BB)V"), (157, u "(C)Z"), (205, .class_ 576), (0, u "java/lang/CharSequence"), (22, u "CASE_INSENSITIVE_ORDER"), (0, u "Ljava/util/Comparator;"), (91, u "isEmpty"), (89, u "valueOf"), (0, u "(C)Ljava/lang/String;"), (231, .methodref 107 1016), (0, .nameAndType 1017 369), (0, u "canEncode"), (0, .methodref 107 1019), (0, .nameAndType 53 1020), (0, u "(C)[B"), (80, u "serialPersistentFields"), (0, u "[Ljava/io/ObjectStreamField;"), (0, .class_ 1104), (0, u "java/lang/String$CaseInsensitiveComparator"), (1, .class_ 1107), (0, u "java/io/Serializable"), (0, .class_ 1109), (0, u "java/lang/Comparable"), (0, .class_ 1111), (0, u "java/lang/constant/Constable"), (0, .class_ 1113), (0, u "java/lang/constant/ConstantDesc"), (2, u "serialVersionUID"), (0, u "J"), (3, u "REPL"), (0, u "C"), (2, u "LATIN1"), (1, u "UTF16")] 323

def k9m0 : Method := { name := "<init>", desc := "()V", sig := { parameters := [], returnType := none }, accessFlags := 1, code := none }
def k9c1 : Code := { maxStack := 1, maxLocals := 1, code := jdk_42_method_55_code, exceptionTable := #[], attributes := #[] }
def k9m1 : Method := { name := "isEmpty", desc := "()Z", sig := { parameters := [], returnType := some .boolean }, accessFlags := 1, code := some k9c1 }
def k9c2 : Code := { maxStack := 4, maxLocals := 1, code := jdk_42_method_139_code, exceptionTable := #[], attributes := #[] }
def k9m2 : Method := { name := "valueOf", desc := "(C)Ljava/lang/String;", sig := { parameters := [.char], returnType := some (.object "java/lang/String") }, accessFlags := 9, code := some k9c2 }
def k9c3 : Code := { maxStack := 2, maxLocals := 3, code := jdk_42_method_151_code, exceptionTable := #[], attributes := #[] }
def k9m3 : Method := { name := "<init>", desc := "([BB)V", sig := { parameters := [(.array .byte), .byte], returnType := none }, accessFlags := 0, code := some k9c3 }
/-- java/lang/String -/
def k9 : Class := { plain "java/lang/String" (some 0) with
  accessFlags := 49
  interfaces := #[4, 5, 6, 7, 8]
  cf := some (fileOf pool9 10 #[.nestMembers #[1103]] #[{ accessFlags := 1, nameIndex := 5, descriptorIndex := 6, attributes := #[] }, { accessFlags := 1, nameIndex := 692, descriptorIndex := 142, attributes := #[] }, { accessFlags := 9, nameIndex := 782, descriptorIndex := 783, attributes := #[] }, { accessFlags := 0, nameIndex := 5, descriptorIndex := 211, attributes := #[] }] 49 2 #[1106, 1108, 575, 1110, 1112] #[{ accessFlags := 18, nameIndex := 13, descriptorIndex := 14, attributes := #[] }, { accessFlags := 18, nameIndex := 17, descriptorIndex := 18, attributes := #[] }, { accessFlags := 2, nameIndex := 21, descriptorIndex := 22, attributes := #[] }, { accessFlags := 2, nameIndex := 25, descriptorIndex := 26, attributes := #[] }, { accessFlags := 26, nameIndex := 1116, descriptorIndex := 1117, attributes := #[] }, { accessFlags := 24, nameIndex := 40, descriptorIndex := 26, attributes := #[] }, { accessFlags := 26, nameIndex := 1101, descriptorIndex := 1102, attributes := #[] }, { accessFlags := 26, nameIndex := 1121, descriptorIndex := 1122, attributes := #[] }, { accessFlags := 25, nameIndex := 599, descriptorIndex := 600, attributes := #[] }, { accessFlags := 24, nameIndex := 1125, descriptorIndex := 18, attributes := #[] }, { accessFlags := 24, nameIndex := 1127, descriptorIndex := 18, attributes := #[] }])
  fields := #[{ name := "value", type := (.array .byte), accessFlags := 18, slot := 0, constantValue := 0 }, { name := "coder", type := .byte, accessFlags := 18, slot := 1, constantValue := 0 }, { name := "hash", type := .int, accessFlags := 2, slot := 2, constantValue := 0 }, { name := "hashIsZero", type := .boolean, accessFlags := 2, slot := 3, constantValue := 0 }, { name := "serialVersionUID", type := .long, accessFlags := 26, slot := 0, constantValue := 0 }, { name := "COMPACT_STRINGS", type := .boolean, accessFlags := 24, slot := 1, constantValue := 0 }, { name := "serialPersistentFields", type := (.array (.object "java/io/ObjectStreamField")), accessFlags := 26, slot := 2, constantValue := 0 }, { name := "REPL", type := .char, accessFlags := 26, slot := 3, constantValue := 0 }, { name := "CASE_INSENSITIVE_ORDER", type := (.object "java/util/Comparator"), accessFlags := 25, slot := 4, constantValue := 0 }, { name := "LATIN1", type := .byte, accessFlags := 24, slot := 5, constantValue := 0 }, { name := "UTF16", type := .byte, accessFlags := 24, slot := 6, constantValue := 0 }]
  methods := #[k9m0, k9m1, k9m2, k9m3]
  instanceTypes := #[(.array .byte), .byte, .int, .boolean]
  staticTypes := #[.long, .boolean, (.array (.object "java/io/ObjectStreamField")), .char, (.object "java/util/Comparator"), .byte, .byte]
  resolved := Array.replicate 1451 none
  statics := some 0 }

def pool10 : Array CpInfo := pool [(2, .class_ 4), (1, u "java/lang/Object"), (0, u "<init>"), (0, u "()V"), (9, .methodref 17 18), (0, .class_ 19), (0, .nameAndType 20 21), (0, u "com/example/trailcaster/trailcaster/model/Checks"), (0, u "required"), (0, u "(Ljava/lang/Object;Ljava/lang/String;)Ljava/lang/Object;"), (0, .methodref 23 24), (0, .class_ 25), (0, .nameAndType 26 27), (0, u "java/lang/String"), (0, u "isEmpty"), (0, u "()Z"), (6, .methodref 17 35), (0, .nameAndType 36 37), (0, u "text"), (0, u "(Ljava/lang/String;Ljava/lang/String;)Ljava/lang/String;"), (2, u "list"), (0, u "(Ljava/util/List;Ljava/lang/String;)Ljava/util/List;"), (1, .class_ 44), (0, u "java/util/List"), (3, .interfaceMethodref 43 49), (0, .nameAndType 50 51), (0, u "size"), (0, u "()I"), (15, .class_ 68), (0, u "java/util/ArrayList"), (0, .methodref 67 70), (0, .nameAndType 5 71), (0, u "(I)V"), (0, .interfaceMethodref 43 73), (0, .nameAndType 74 75), (0, u "iterator"), (0, u "()Ljava/util/Iterator;"), (0, .interfaceMethodref 77 78), (0, .class_ 79), (0, .nameAndType 80 27), (0, u "java/util/Iterator"), (0, u "hasNext"), (9, .methodref 91 92), (0, .class_ 93), (0, .nameAndType 94 95), (0, u "java/util/Collections"), (0, u "unmodifiableList"), (0, u "(Ljava/util/List;)Ljava/util/List;"), (2, u "DATE_TIME"), (0, u "Ljava/util/regex/Pattern;"), (33, u "DATE"), (30, u "MAX_OFFSET_MINUTES"), (0, u "I"), (7, u "optionalText")] 48

def k10m0 : Method := { name := "<init>", desc := "()V", sig := { parameters := [], returnType := none }, accessFlags := 2, code := none }
def k10c1 : Code := { maxStack := 3, maxLocals := 2, code := prog_44_method_2_code, exceptionTable := #[], attributes := #[] }
def k10m1 : Method := { name := "required", desc := "(Ljava/lang/Object;Ljava/lang/String;)Ljava/lang/Object;", sig := { parameters := [(.object "java/lang/Object"), (.object "java/lang/String")], returnType := some (.object "java/lang/Object") }, accessFlags := 8, code := some k10c1 }
def k10c2 : Code := { maxStack := 2, maxLocals := 2, code := prog_44_method_3_code, exceptionTable := #[], attributes := #[] }
def k10m2 : Method := { name := "text", desc := "(Ljava/lang/String;Ljava/lang/String;)Ljava/lang/String;", sig := { parameters := [(.object "java/lang/String"), (.object "java/lang/String")], returnType := some (.object "java/lang/String") }, accessFlags := 8, code := some k10c2 }
def k10c3 : Code := { maxStack := 2, maxLocals := 3, code := prog_44_method_4_code, exceptionTable := #[], attributes := #[] }
def k10m3 : Method := { name := "optionalText", desc := "(Ljava/lang/String;Ljava/lang/String;)Ljava/lang/String;", sig := { parameters := [(.object "java/lang/String"), (.object "java/lang/String")], returnType := some (.object "java/lang/String") }, accessFlags := 8, code := some k10c3 }
def k10c4 : Code := { maxStack := 3, maxLocals := 5, code := prog_44_method_8_code, exceptionTable := #[], attributes := #[] }
def k10m4 : Method := { name := "list", desc := "(Ljava/util/List;Ljava/lang/String;)Ljava/util/List;", sig := { parameters := [(.object "java/util/List"), (.object "java/lang/String")], returnType := some (.object "java/util/List") }, accessFlags := 8, code := some k10c4 }
/-- com/example/trailcaster/trailcaster/model/Checks -/
def k10 : Class := { plain "com/example/trailcaster/trailcaster/model/Checks" (some 0) with
  accessFlags := 48
  interfaces := #[]
  cf := some (fileOf pool10 17 #[] #[{ accessFlags := 2, nameIndex := 5, descriptorIndex := 6, attributes := #[] }, { accessFlags := 8, nameIndex := 20, descriptorIndex := 21, attributes := #[] }, { accessFlags := 8, nameIndex := 36, descriptorIndex := 37, attributes := #[] }, { accessFlags := 8, nameIndex := 173, descriptorIndex := 37, attributes := #[] }, { accessFlags := 8, nameIndex := 40, descriptorIndex := 41, attributes := #[] }] 48 2 #[] #[{ accessFlags := 26, nameIndex := 98, descriptorIndex := 99, attributes := #[] }, { accessFlags := 26, nameIndex := 133, descriptorIndex := 99, attributes := #[] }, { accessFlags := 26, nameIndex := 164, descriptorIndex := 165, attributes := #[] }])
  fields := #[{ name := "DATE_TIME", type := (.object "java/util/regex/Pattern"), accessFlags := 26, slot := 0, constantValue := 0 }, { name := "DATE", type := (.object "java/util/regex/Pattern"), accessFlags := 26, slot := 1, constantValue := 0 }, { name := "MAX_OFFSET_MINUTES", type := .int, accessFlags := 26, slot := 2, constantValue := 0 }]
  methods := #[k10m0, k10m1, k10m2, k10m3, k10m4]
  instanceTypes := #[]
  staticTypes := #[(.object "java/util/regex/Pattern"), (.object "java/util/regex/Pattern"), .int]
  resolved := Array.replicate 222 none
  statics := none }

def pool11 : Array CpInfo := pool [(8, .class_ 10), (1, u "java/lang/Iterable"), (24, .class_ 36), (0, u "java/lang/Object")] 25

/-- java/lang/Iterable -/
def k11 : Class := { plain "java/lang/Iterable" (some 0) with
  accessFlags := 1537
  interfaces := #[]
  cf := some (fileOf pool11 8 #[] #[] 1537 35 #[] #[])
  fields := #[]
  methods := #[]
  instanceTypes := #[]
  staticTypes := #[]
  resolved := Array.replicate 62 none
  statics := none }

def pool12 : Array CpInfo := pool [(10, .class_ 12), (1, u "java/util/Collection"), (47, .class_ 61), (0, u "java/lang/Object"), (0, .class_ 63), (0, u "java/lang/Iterable")] 51

/-- java/util/Collection -/
def k12 : Class := { plain "java/util/Collection" (some 0) with
  accessFlags := 1537
  interfaces := #[11]
  cf := some (fileOf pool12 10 #[] #[] 1537 60 #[62] #[])
  fields := #[]
  methods := #[]
  instanceTypes := #[]
  staticTypes := #[]
  resolved := Array.replicate 115 none
  statics := none }

def pool13 : Array CpInfo := pool [(1, .methodref 2 3), (0, .class_ 4), (0, .nameAndType 5 6), (0, u "java/lang/Object"), (0, u "<init>"), (0, u "()V"), (1, .class_ 10), (1, u "java/util/AbstractCollection"), (66, .class_ 78), (0, u "java/util/Collection")] 81

def k13c0 : Code := { maxStack := 1, maxLocals := 1, code := jdk_22_method_1_code, exceptionTable := #[], attributes := #[] }
def k13m0 : Method := { name := "<init>", desc := "()V", sig := { parameters := [], returnType := none }, accessFlags := 4, code := some k13c0 }
/-- java/util/AbstractCollection -/
def k13 : Class := { plain "java/util/AbstractCollection" (some 0) with
  accessFlags := 1057
  interfaces := #[12]
  cf := some (fileOf pool13 8 #[] #[{ accessFlags := 4, nameIndex := 5, descriptorIndex := 6, attributes := #[] }] 1057 2 #[77] #[])
  fields := #[]
  methods := #[k13m0]
  instanceTypes := #[]
  staticTypes := #[]
  resolved := Array.replicate 160 none
  statics := none }

def pool14 : Array CpInfo := pool [(8, .class_ 10), (1, u "java/util/SequencedCollection"), (15, .class_ 27), (0, u "java/lang/Object"), (0, .class_ 29), (0, u "java/util/Collection")] 27

/-- java/util/SequencedCollection -/
def k14 : Class := { plain "java/util/SequencedCollection" (some 0) with
  accessFlags := 1537
  interfaces := #[12]
  cf := some (fileOf pool14 8 #[] #[] 1537 26 #[28] #[])
  fields := #[]
  methods := #[]
  instanceTypes := #[]
  staticTypes := #[]
  resolved := Array.replicate 57 none
  statics := none }

def pool15 : Array CpInfo := pool [(8, .class_ 10), (1, u "java/util/List"), (68, u "size"), (0, u "()I"), (22, .class_ 104), (0, u "java/lang/Object"), (15, .class_ 121), (0, u "java/util/SequencedCollection"), (1, u "iterator"), (0, u "()Ljava/util/Iterator;")] 126

def k15m0 : Method := { name := "size", desc := "()I", sig := { parameters := [], returnType := some .int }, accessFlags := 1025, code := none }
def k15m1 : Method := { name := "iterator", desc := "()Ljava/util/Iterator;", sig := { parameters := [], returnType := some (.object "java/util/Iterator") }, accessFlags := 1025, code := none }
/-- java/util/List -/
def k15 : Class := { plain "java/util/List" (some 0) with
  accessFlags := 1537
  interfaces := #[14]
  cf := some (fileOf pool15 8 #[] #[{ accessFlags := 1025, nameIndex := 79, descriptorIndex := 80, attributes := #[] }, { accessFlags := 1025, nameIndex := 123, descriptorIndex := 124, attributes := #[] }] 1537 103 #[120] #[])
  fields := #[]
  methods := #[k15m0, k15m1]
  instanceTypes := #[]
  staticTypes := #[]
  resolved := Array.replicate 251 none
  statics := none }

def pool16 : Array CpInfo := pool [(1, .methodref 2 3), (0, .class_ 4), (0, .nameAndType 5 6), (0, u "java/util/AbstractCollection"), (0, u "<init>"), (0, u "()V"), (0, .fieldref 8 9), (0, .class_ 10), (0, .nameAndType 11 12), (0, u "java/util/AbstractList"), (0, u "modCount"), (0, u "I"), (64, .class_ 78), (0, u "java/util/AbstractList$Itr"), (3, .class_ 83), (0, u "java/util/AbstractList$ListItr"), (9, .class_ 94), (0, u "java/util/AbstractList$RandomAccessSubList"), (3, .class_ 99), (0, u "java/util/AbstractList$SubList"), (33, .class_ 134), (0, u "java/util/List"), (73, .class_ 209), (0, u "java/util/AbstractList$SubList$1"), (0, .class_ 211), (0, u "java/util/AbstractList$RandomAccessSpliterator")] 6

def k16c0 : Code := { maxStack := 2, maxLocals := 1, code := jdk_39_method_1_code, exceptionTable := #[], attributes := #[] }
def k16m0 : Method := { name := "<init>", desc := "()V", sig := { parameters := [], returnType := none }, accessFlags := 4, code := some k16c0 }
/-- java/util/AbstractList -/
def k16 : Class := { plain "java/util/AbstractList" (some 13) with
  accessFlags := 1057
  interfaces := #[15]
  cf := some (fileOf pool16 8 #[.nestMembers #[93, 98, 208, 210, 82, 77]] #[{ accessFlags := 4, nameIndex := 5, descriptorIndex := 6, attributes := #[] }] 1057 2 #[133] #[{ accessFlags := 132, nameIndex := 11, descriptorIndex := 12, attributes := #[] }])
  fields := #[{ name := "modCount", type := .int, accessFlags := 132, slot := 0, constantValue := 0 }]
  methods := #[k16m0]
  instanceTypes := #[.int]
  staticTypes := #[]
  resolved := Array.replicate 218 none
  statics := none }

def pool17 : Array CpInfo := pool [(1, .class_ 2), (0, u "java/util/RandomAccess"), (0, .class_ 4), (0, u "java/lang/Object")] 2

/-- java/util/RandomAccess -/
def k17 : Class := { plain "java/util/RandomAccess" (some 0) with
  accessFlags := 1537
  interfaces := #[]
  cf := some (fileOf pool17 1 #[] #[] 1537 3 #[] #[])
  fields := #[]
  methods := #[]
  instanceTypes := #[]
  staticTypes := #[]
  resolved := Array.replicate 7 none
  statics := none }

def pool18 : Array CpInfo := pool [(1, .class_ 2), (0, u "java/lang/Cloneable"), (0, .class_ 4), (0, u "java/lang/Object")] 2

/-- java/lang/Cloneable -/
def k18 : Class := { plain "java/lang/Cloneable" (some 0) with
  accessFlags := 1537
  interfaces := #[]
  cf := some (fileOf pool18 1 #[] #[] 1537 3 #[] #[])
  fields := #[]
  methods := #[]
  instanceTypes := #[]
  staticTypes := #[]
  resolved := Array.replicate 7 none
  statics := none }

def pool19 : Array CpInfo := pool [(1, .methodref 2 3), (0, .class_ 4), (0, .nameAndType 5 6), (0, u "java/util/AbstractList"), (0, u "<init>"), (0, u "()V"), (2, .fieldref 10 11), (0, .class_ 12), (0, .nameAndType 13 14), (0, u "java/util/ArrayList"), (0, u "elementData"), (0, u "[Ljava/lang/Object;"), (0, .fieldref 10 16), (0, .nameAndType 17 14), (0, u "EMPTY_ELEMENTDATA"), (21, .fieldref 10 40), (0, .nameAndType 41 14), (0, u "DEFAULTCAPACITY_EMPTY_ELEMENTDATA"), (6, .fieldref 10 49), (0, .nameAndType 50 51), (0, u "size"), (0, u "I"), (86, u "(I)V"), (9, .class_ 149), (0, u "java/util/List"), (16, u "iterator"), (0, u "()Ljava/util/Iterator;"), (18, u "()I"), (75, .class_ 263), (0, u "java/util/ArrayList$ListItr"), (3, .class_ 268), (0, u "java/util/ArrayList$Itr"), (0, .methodref 267 270), (0, .nameAndType 5 271), (0, u "(Ljava/util/ArrayList;)V"), (4, .class_ 277), (0, u "java/util/ArrayList$SubList"), (12, .class_ 291), (0, u "java/util/ArrayList$ArrayListSpliterator"), (37, .class_ 330), (0, u "java/util/RandomAccess"), (0, .class_ 332), (0, u "java/lang/Cloneable"), (0, .class_ 334), (0, u "java/io/Serializable"), (0, u "serialVersionUID"), (0, u "J"), (3, u "DEFAULT_CAPACITY"), (159, .class_ 501), (0, u "java/util/ArrayList$SubList$2"), (0, .class_ 503), (0, u "java/util/ArrayList$SubList$1")] 5

def k19c0 : Code := { maxStack := 4, maxLocals := 2, code := jdk_38_method_1_code, exceptionTable := #[], attributes := #[] }
def k19m0 : Method := { name := "<init>", desc := "(I)V", sig := { parameters := [.int], returnType := none }, accessFlags := 1, code := some k19c0 }
def k19c1 : Code := { maxStack := 2, maxLocals := 1, code := jdk_38_method_2_code, exceptionTable := #[], attributes := #[] }
def k19m1 : Method := { name := "<init>", desc := "()V", sig := { parameters := [], returnType := none }, accessFlags := 1, code := some k19c1 }
def k19c2 : Code := { maxStack := 1, maxLocals := 1, code := jdk_38_method_8_code, exceptionTable := #[], attributes := #[] }
def k19m2 : Method := { name := "size", desc := "()I", sig := { parameters := [], returnType := some .int }, accessFlags := 1, code := some k19c2 }
def k19c3 : Code := { maxStack := 3, maxLocals := 1, code := jdk_38_method_55_code, exceptionTable := #[], attributes := #[] }
def k19m3 : Method := { name := "iterator", desc := "()Ljava/util/Iterator;", sig := { parameters := [], returnType := some (.object "java/util/Iterator") }, accessFlags := 1, code := some k19c3 }
/-- java/util/ArrayList -/
def k19 : Class := { plain "java/util/ArrayList" (some 16) with
  accessFlags := 33
  interfaces := #[15, 17, 18, 4]
  cf := some (fileOf pool19 10 #[.nestMembers #[290, 276, 500, 502, 262, 267]] #[{ accessFlags := 1, nameIndex := 5, descriptorIndex := 138, attributes := #[] }, { accessFlags := 1, nameIndex := 5, descriptorIndex := 6, attributes := #[] }, { accessFlags := 1, nameIndex := 50, descriptorIndex := 186, attributes := #[] }, { accessFlags := 1, nameIndex := 166, descriptorIndex := 167, attributes := #[] }] 33 2 #[148, 329, 331, 333] #[{ accessFlags := 26, nameIndex := 335, descriptorIndex := 336, attributes := #[] }, { accessFlags := 26, nameIndex := 340, descriptorIndex := 51, attributes := #[] }, { accessFlags := 26, nameIndex := 17, descriptorIndex := 14, attributes := #[] }, { accessFlags := 26, nameIndex := 41, descriptorIndex := 14, attributes := #[] }, { accessFlags := 128, nameIndex := 13, descriptorIndex := 14, attributes := #[] }, { accessFlags := 2, nameIndex := 50, descriptorIndex := 51, attributes := #[] }])
  fields := #[{ name := "serialVersionUID", type := .long, accessFlags := 26, slot := 0, constantValue := 0 }, { name := "DEFAULT_CAPACITY", type := .int, accessFlags := 26, slot := 1, constantValue := 0 }, { name := "EMPTY_ELEMENTDATA", type := (.array (.object "java/lang/Object")), accessFlags := 26, slot := 2, constantValue := 0 }, { name := "DEFAULTCAPACITY_EMPTY_ELEMENTDATA", type := (.array (.object "java/lang/Object")), accessFlags := 26, slot := 3, constantValue := 0 }, { name := "elementData", type := (.array (.object "java/lang/Object")), accessFlags := 128, slot := 1, constantValue := 0 }, { name := "size", type := .int, accessFlags := 2, slot := 2, constantValue := 0 }]
  methods := #[k19m0, k19m1, k19m2, k19m3]
  instanceTypes := #[.int, (.array (.object "java/lang/Object")), .int]
  staticTypes := #[.long, .int, (.array (.object "java/lang/Object")), (.array (.object "java/lang/Object"))]
  resolved := Array.replicate 509 none
  mirror := some 3
  statics := some 1 }

def pool20 : Array CpInfo := pool [(1, .methodref 2 3), (0, .class_ 4), (0, .nameAndType 5 6), (0, u "java/lang/Record"), (0, u "<init>"), (0, u "()V"), (0, .string 8), (0, u "id"), (0, .methodref 10 11), (0, .class_ 12), (0, .nameAndType 13 14), (0, u "com/example/trailcaster/trailcaster/model/Checks"), (0, u "required"), (0, u "(Ljava/lang/Object;Ljava/lang/String;)Ljava/lang/Object;"), (0, .string 16), (0, u "typeCode"), (0, .methodref 10 18), (0, .nameAndType 19 20), (0, u "text"), (0, u "(Ljava/lang/String;Ljava/lang/String;)Ljava/lang/String;"), (0, .string 22), (0, u "typeCodeRole"), (0, .methodref 10 24), (0, .nameAndType 25 20), (0, u "optionalText"), (0, .string 27), (0, u "idTypeCode"), (1, u "name"), (6, .methodref 37 38), (0, .class_ 39), (0, .nameAndType 40 41), (0, u "[B"), (0, u "clone"), (0, u "()Ljava/lang/Object;"), (0, .string 43), (0, u "details"), (0, .methodref 10 45), (0, .nameAndType 46 47), (0, u "list"), (0, u "(Ljava/util/List;Ljava/lang/String;)Ljava/util/List;"), (0, .fieldref 49 50), (0, .class_ 51), (0, .nameAndType 8 52), (0, u "com/example/trailcaster/trailcaster/model/ParticipantObject"), (0, u "Ljava/lang/String;"), (0, .fieldref 49 54), (0, .nameAndType 16 52), (0, .fieldref 49 56), (0, .nameAndType 22 52), (0, .fieldref 49 58), (0, .nameAndType 27 59), (0, u "Lcom/example/trailcaster/trailcaster/model/CodedValue;"), (0, .fieldref 49 61), (0, .nameAndType 29 52), (0, .fieldref 49 63), (0, .nameAndType 64 39), (0, u "query"), (0, .fieldref 49 66), (0, .nameAndType 43 67), (0, u "Ljava/util/List;"), (0, .fieldref 49 69), (0, .nameAndType 70 71), (0, u "description"), (0, u "Lcom/example/trailcaster/trailcaster/model/DicomObjectDescription;"), (14, u "(Ljava/lang/String;Ljava/lang/String;Ljava/lang/String;Lcom/example/trailcaster/trailcaster/model/CodedValue;Ljava/lang/String;[BLjava/util/List;Lcom/example/trailcaster/trailcaster/model/DicomObjectDescription;)V"), (13, u "()[B")] 34

def k20c0 : Code := { maxStack := 2, maxLocals := 9, code := prog_75_method_1_code, exceptionTable := #[], attributes := #[] }
def k20m0 : Method := { name := "<init>", desc := "(Ljava/lang/String;Ljava/lang/String;Ljava/lang/String;Lcom/example/trailcaster/trailcaster/model/CodedValue;Ljava/lang/String;[BLjava/util/List;Lcom/example/trailcaster/trailcaster/model/DicomObjectDescription;)V", sig := { parameters := [(.object "java/lang/String"), (.object "java/lang/String"), (.object "java/lang/String"), (.object "com/example/trailcaster/trailcaster/model/CodedValue"), (.object "java/lang/String"), (.array .byte), (.object "java/util/List"), (.object "com/example/trailcaster/trailcaster/model/DicomObjectDescription")], returnType := none }, accessFlags := 1, code := some k20c0 }
def k20c1 : Code := { maxStack := 1, maxLocals := 1, code := prog_75_method_2_code, exceptionTable := #[], attributes := #[] }
def k20m1 : Method := { name := "query", desc := "()[B", sig := { parameters := [], returnType := some (.array .byte) }, accessFlags := 1, code := some k20c1 }
/-- com/example/trailcaster/trailcaster/model/ParticipantObject -/
def k20 : Class := { plain "com/example/trailcaster/trailcaster/model/ParticipantObject" (some 2) with
  accessFlags := 49
  interfaces := #[]
  cf := some (fileOf pool20 49 #[] #[{ accessFlags := 1, nameIndex := 5, descriptorIndex := 86, attributes := #[] }, { accessFlags := 1, nameIndex := 64, descriptorIndex := 100, attributes := #[] }] 49 2 #[] #[{ accessFlags := 18, nameIndex := 8, descriptorIndex := 52, attributes := #[] }, { accessFlags := 18, nameIndex := 16, descriptorIndex := 52, attributes := #[] }, { accessFlags := 18, nameIndex := 22, descriptorIndex := 52, attributes := #[] }, { accessFlags := 18, nameIndex := 27, descriptorIndex := 59, attributes := #[] }, { accessFlags := 18, nameIndex := 29, descriptorIndex := 52, attributes := #[] }, { accessFlags := 18, nameIndex := 64, descriptorIndex := 39, attributes := #[] }, { accessFlags := 18, nameIndex := 43, descriptorIndex := 67, attributes := #[] }, { accessFlags := 18, nameIndex := 70, descriptorIndex := 71, attributes := #[] }])
  fields := #[{ name := "id", type := (.object "java/lang/String"), accessFlags := 18, slot := 0, constantValue := 0 }, { name := "typeCode", type := (.object "java/lang/String"), accessFlags := 18, slot := 1, constantValue := 0 }, { name := "typeCodeRole", type := (.object "java/lang/String"), accessFlags := 18, slot := 2, constantValue := 0 }, { name := "idTypeCode", type := (.object "com/example/trailcaster/trailcaster/model/CodedValue"), accessFlags := 18, slot := 3, constantValue := 0 }, { name := "name", type := (.object "java/lang/String"), accessFlags := 18, slot := 4, constantValue := 0 }, { name := "query", type := (.array .byte), accessFlags := 18, slot := 5, constantValue := 0 }, { name := "details", type := (.object "java/util/List"), accessFlags := 18, slot := 6, constantValue := 0 }, { name := "description", type := (.object "com/example/trailcaster/trailcaster/model/DicomObjectDescription"), accessFlags := 18, slot := 7, constantValue := 0 }]
  methods := #[k20m0, k20m1]
  instanceTypes := #[(.object "java/lang/String"), (.object "java/lang/String"), (.object "java/lang/String"), (.object "com/example/trailcaster/trailcaster/model/CodedValue"), (.object "java/lang/String"), (.array .byte), (.object "java/util/List"), (.object "com/example/trailcaster/trailcaster/model/DicomObjectDescription")]
  staticTypes := #[]
  resolved := Array.replicate 135 none
  statics := none }

def pool21 : Array CpInfo := pool [(16, .class_ 18), (1, u "java/util/Iterator"), (0, u "hasNext"), (0, u "()Z"), (10, .class_ 32), (0, u "java/lang/Object")] 20

def k21m0 : Method := { name := "hasNext", desc := "()Z", sig := { parameters := [], returnType := some .boolean }, accessFlags := 1025, code := none }
/-- java/util/Iterator -/
def k21 : Class := { plain "java/util/Iterator" (some 0) with
  accessFlags := 1537
  interfaces := #[]
  cf := some (fileOf pool21 16 #[] #[{ accessFlags := 1025, nameIndex := 19, descriptorIndex := 20, attributes := #[] }] 1537 31 #[] #[])
  fields := #[]
  methods := #[k21m0]
  instanceTypes := #[]
  staticTypes := #[]
  resolved := Array.replicate 53 none
  statics := none }

def pool22 : Array CpInfo := pool [(1, .fieldref 2 3), (0, .class_ 4), (0, .nameAndType 5 6), (0, u "java/util/ArrayList$Itr"), (0, u "this$0"), (0, u "Ljava/util/ArrayList;"), (0, .methodref 8 9), (0, .class_ 10), (0, .nameAndType 11 12), (0, u "java/lang/Object"), (0, u "<init>"), (0, u "()V"), (0, .fieldref 2 14), (0, .nameAndType 15 16), (0, u "lastRet"), (0, u "I"), (0, .fieldref 18 19), (0, .class_ 20), (0, .nameAndType 21 16), (0, u "java/util/ArrayList"), (0, u "modCount"), (0, .fieldref 2 23), (0, .nameAndType 24 16), (0, u "expectedModCount"), (0, .fieldref 2 26), (0, .nameAndType 27 16), (0, u "cursor"), (0, .fieldref 18 29), (0, .nameAndType 30 16), (0, u "size"), (38, .class_ 70), (0, u "java/util/Iterator"), (0, u "(Ljava/util/ArrayList;)V"), (8, u "hasNext"), (0, u "()Z")] 22

def k22c0 : Code := { maxStack := 2, maxLocals := 2, code := jdk_49_method_1_code, exceptionTable := #[], attributes := #[] }
def k22m0 : Method := { name := "<init>", desc := "(Ljava/util/ArrayList;)V", sig := { parameters := [(.object "java/util/ArrayList")], returnType := none }, accessFlags := 0, code := some k22c0 }
def k22c1 : Code := { maxStack := 2, maxLocals := 1, code := jdk_49_method_2_code, exceptionTable := #[], attributes := #[] }
def k22m1 : Method := { name := "hasNext", desc := "()Z", sig := { parameters := [], returnType := some .boolean }, accessFlags := 1, code := some k22c1 }
/-- java/util/ArrayList$Itr -/
def k22 : Class := { plain "java/util/ArrayList$Itr" (some 0) with
  accessFlags := 32
  interfaces := #[21]
  cf := some (fileOf pool22 2 #[.nestHost 18] #[{ accessFlags := 0, nameIndex := 11, descriptorIndex := 71, attributes := #[] }, { accessFlags := 1, nameIndex := 80, descriptorIndex := 81, attributes := #[] }] 32 8 #[69] #[{ accessFlags := 0, nameIndex := 27, descriptorIndex := 16, attributes := #[] }, { accessFlags := 0, nameIndex := 15, descriptorIndex := 16, attributes := #[] }, { accessFlags := 0, nameIndex := 24, descriptorIndex := 16, attributes := #[] }, { accessFlags := 4112, nameIndex := 5, descriptorIndex := 6, attributes := #[] }])
  fields := #[{ name := "cursor", type := .int, accessFlags := 0, slot := 0, constantValue := 0 }, { name := "lastRet", type := .int, accessFlags := 0, slot := 1, constantValue := 0 }, { name := "expectedModCount", type := .int, accessFlags := 0, slot := 2, constantValue := 0 }, { name := "this$0", type := (.object "java/util/ArrayList"), accessFlags := 4112, slot := 3, constantValue := 0 }]
  methods := #[k22m0, k22m1]
  instanceTypes := #[.int, .int, .int, (.object "java/util/ArrayList")]
  staticTypes := #[]
  resolved := Array.replicate 104 none
  statics := none }

def pool23 : Array CpInfo := pool [(2, .class_ 4), (1, u "java/lang/Object"), (0, u "<init>"), (0, u "()V"), (1, .class_ 10), (1, u "java/util/List"), (2, .class_ 14), (0, u "java/util/RandomAccess"), (4, .class_ 20), (0, u "java/util/Collections"), (63, u "r"), (0, u "Ljava/util/Random;"), (67, u "(Ljava/util/List;)V"), (9, .nameAndType 164 165), (0, u "getClass"), (0, u "()Ljava/lang/Class;"), (0, .class_ 167), (0, u "java/util/Collections$UnmodifiableCollection"), (6, .class_ 175), (0, u "java/util/Collections$UnmodifiableSequencedCollection"), (6, .class_ 183), (0, u "java/util/Collections$UnmodifiableSet"), (6, .class_ 191), (0, u "java/util/Collections$UnmodifiableSequencedSet"), (6, .class_ 199), (0, u "java/util/Collections$UnmodifiableSortedSet"), (6, .class_ 207), (0, u "java/util/Collections$UnmodifiableNavigableSet"), (3, .interfaceMethodref 8 163), (0, .class_ 213), (0, u "java/util/Collections$UnmodifiableList"), (0, .interfaceMethodref 8 163), (0, .class_ 216), (0, u "java/util/Collections$UnmodifiableRandomAccessList"), (0, .methodref 215 218), (0, .nameAndType 5 153), (4, .class_ 224), (0, u "java/util/Collections$UnmodifiableMap"), (6, .class_ 232), (0, u "java/util/Collections$UnmodifiableSequencedMap"), (4, .class_ 238), (0, u "java/util/Collections$UnmodifiableSortedMap"), (6, .class_ 246), (0, u "java/util/Collections$UnmodifiableNavigableMap"), (3, .class_ 251), (0, u "java/util/Collections$SynchronizedCollection"), (4, .class_ 257), (0, u "java/util/Collections$SynchronizedSet"), (4, .class_ 263), (0, u "java/util/Collections$SynchronizedSortedSet"), (1, .class_ 266), (0, u "java/util/Collections$SynchronizedNavigableSet"), (1, .class_ 269), (0, u "java/util/Collections$SynchronizedRandomAccessList"), (1, .class_ 272), (0, u "java/util/Collections$SynchronizedList"), (5, .class_ 279), (0, u "java/util/Collections$SynchronizedMap"), (1, .class_ 282), (0, u "java/util/Collections$SynchronizedSortedMap"), (1, .class_ 285), (0, u "java/util/Collections$SynchronizedNavigableMap"), (1, .class_ 288), (0, u "java/util/Collections$CheckedCollection"), (11, .class_ 301), (0, u "java/util/Collections$CheckedQueue"), (3, .class_ 306), (0, u "java/util/Collections$CheckedSet"), (3, .class_ 311), (0, u "java/util/Collections$CheckedSortedSet"), (3, .class_ 316), (0, u "java/util/Collections$CheckedNavigableSet"), (3, .class_ 321), (0, u "java/util/Collections$CheckedRandomAccessList"), (3, .class_ 326), (0, u "java/util/Collections$CheckedList"), (1, .class_ 329), (0, u "java/util/Collections$CheckedMap"), (3, .class_ 334), (0, u "java/util/Collections$CheckedSortedMap"), (3, .class_ 339), (0, u "java/util/Collections$CheckedNavigableMap"), (4, .class_ 346), (1, u "java/util/Collections$EmptyIterator"), (3, .class_ 352), (1, u "java/util/Collections$EmptyListIterator"), (2, .class_ 357), (1, u "java/util/Collections$EmptyEnumeration"), (4, u "EMPTY_SET"), (0, u "Ljava/util/Set;"), (6, u "EMPTY_LIST"), (0, u "Ljava/util/List;"), (2, u "EMPTY_MAP"), (0, u "Ljava/util/Map;"), (4, .class_ 381), (0, u "java/util/Collections$SingletonSet"), (2, .class_ 385), (0, u "java/util/Collections$1"), (1, .class_ 388), (0, u "java/util/Collections$2"), (1, .class_ 391), (0, u "java/util/Collections$SingletonList"), (1, .class_ 394), (0, u "java/util/Collections$SingletonMap"), (22, .class_ 418), (0, u "java/util/Collections$CopiesList"), (4, .class_ 425), (1, u "java/util/Collections$ReverseComparator"), (8, .class_ 435), (0, u "java/util/Collections$ReverseComparator2"), (6, .class_ 443), (0, u "java/util/Collections$3"), (25, .class_ 470), (0, u "java/util/Collections$SetFromMap"), (2, .class_ 474), (0, u "java/util/Collections$SequencedSetFromMap"), (3, .class_ 479), (0, u "java/util/Collections$AsLIFOQueue"), (11, .class_ 492), (0, u "java/util/Collections$EmptySet"), (1, .class_ 495), (0, u "java/util/Collections$EmptyList"), (1, .class_ 498), (0, u "java/util/Collections$EmptyMap"), (1, u "BINARYSEARCH_THRESHOLD"), (0, u "I"), (2, u "REVERSE_THRESHOLD"), (1, u "SHUFFLE_THRESHOLD"), (1, u "FILL_THRESHOLD"), (1, u "ROTATE_THRESHOLD"), (1, u "COPY_THRESHOLD"), (1, u "REPLACEALL_THRESHOLD"), (1, u "INDEXOFSUBLIST_THRESHOLD"), (129, u "unmodifiableList"), (0, u "(Ljava/util/List;)Ljava/util/List;"), (202, .class_ 851), (0, u "java/util/Collections$CheckedMap$CheckedEntrySet"), (0, .class_ 853), (0, u "java/util/Collections$CheckedMap$CheckedEntrySet$CheckedEntry"), (0, .class_ 855), (0, u "java/util/Collections$CheckedMap$CheckedEntrySet$1"), (0, .class_ 857), (0, u "java/util/Collections$CheckedList$1"), (0, .class_ 859), (0, u "java/util/Collections$CheckedCollection$1"), (0, .class_ 861), (0, u "java/util/Collections$UnmodifiableNavigableMap$EmptyNavigableMap"), (0, .class_ 863), (0, u "java/util/Collections$UnmodifiableMap$UnmodifiableEntrySet"), (0, .class_ 865), (0, u "java/util/Collections$UnmodifiableMap$UnmodifiableEntrySet$UnmodifiableEntry"), (0, .class_ 867), (0, u "java/util/Collections$UnmodifiableMap$UnmodifiableEntrySet$UnmodifiableEntrySetSpliterator"), (0, .class_ 869), (0, u "java/util/Collections$UnmodifiableMap$UnmodifiableEntrySet$1"), (0, .class_ 871), (0, u "java/util/Collections$UnmodifiableList$1"), (0, .class_ 873), (0, u "java/util/Collections$UnmodifiableNavigableSet$EmptyNavigableSet"), (0, .class_ 875), (0, u "java/util/Collections$UnmodifiableCollection$1")] 57

def k23m0 : Method := { name := "<init>", desc := "()V", sig := { parameters := [], returnType := none }, accessFlags := 2, code := none }
def k23c1 : Code := { maxStack := 3, maxLocals := 1, code := jdk_79_method_35_code, exceptionTable := #[], attributes := #[] }
def k23m1 : Method := { name := "unmodifiableList", desc := "(Ljava/util/List;)Ljava/util/List;", sig := { parameters := [(.object "java/util/List")], returnType := some (.object "java/util/List") }, accessFlags := 9, code := some k23c1 }
/-- java/util/Collections -/
def k23 : Class := { plain "java/util/Collections" (some 0) with
  accessFlags := 33
  interfaces := #[]
  cf := some (fileOf pool23 19 #[.nestMembers #[478, 473, 469, 434, 423, 417, 393, 390, 380, 497, 494, 491, 355, 350, 344, 338, 333, 328, 850, 852, 854, 320, 325, 856, 315, 310, 305, 300, 287, 858, 284, 281, 278, 268, 271, 265, 262, 256, 250, 245, 860, 237, 231, 223, 862, 864, 866, 868, 215, 212, 870, 206, 872, 198, 190, 182, 174, 166, 874, 442, 387, 384]] #[{ accessFlags := 2, nameIndex := 5, descriptorIndex := 6, attributes := #[] }, { accessFlags := 9, nameIndex := 646, descriptorIndex := 647, attributes := #[] }] 33 2 #[] #[{ accessFlags := 26, nameIndex := 500, descriptorIndex := 501, attributes := #[] }, { accessFlags := 26, nameIndex := 504, descriptorIndex := 501, attributes := #[] }, { accessFlags := 26, nameIndex := 506, descriptorIndex := 501, attributes := #[] }, { accessFlags := 26, nameIndex := 508, descriptorIndex := 501, attributes := #[] }, { accessFlags := 26, nameIndex := 510, descriptorIndex := 501, attributes := #[] }, { accessFlags := 26, nameIndex := 512, descriptorIndex := 501, attributes := #[] }, { accessFlags := 26, nameIndex := 514, descriptorIndex := 501, attributes := #[] }, { accessFlags := 26, nameIndex := 516, descriptorIndex := 501, attributes := #[] }, { accessFlags := 10, nameIndex := 84, descriptorIndex := 85, attributes := #[] }, { accessFlags := 25, nameIndex := 362, descriptorIndex := 363, attributes := #[] }, { accessFlags := 25, nameIndex := 370, descriptorIndex := 371, attributes := #[] }, { accessFlags := 25, nameIndex := 374, descriptorIndex := 375, attributes := #[] }])
  fields := #[{ name := "BINARYSEARCH_THRESHOLD", type := .int, accessFlags := 26, slot := 0, constantValue := 0 }, { name := "REVERSE_THRESHOLD", type := .int, accessFlags := 26, slot := 1, constantValue := 0 }, { name := "SHUFFLE_THRESHOLD", type := .int, accessFlags := 26, slot := 2, constantValue := 0 }, { name := "FILL_THRESHOLD", type := .int, accessFlags := 26, slot := 3, constantValue := 0 }, { name := "ROTATE_THRESHOLD", type := .int, accessFlags := 26, slot := 4, constantValue := 0 }, { name := "COPY_THRESHOLD", type := .int, accessFlags := 26, slot := 5, constantValue := 0 }, { name := "REPLACEALL_THRESHOLD", type := .int, accessFlags := 26, slot := 6, constantValue := 0 }, { name := "INDEXOFSUBLIST_THRESHOLD", type := .int, accessFlags := 26, slot := 7, constantValue := 0 }, { name := "r", type := (.object "java/util/Random"), accessFlags := 10, slot := 8, constantValue := 0 }, { name := "EMPTY_SET", type := (.object "java/util/Set"), accessFlags := 25, slot := 9, constantValue := 0 }, { name := "EMPTY_LIST", type := (.object "java/util/List"), accessFlags := 25, slot := 10, constantValue := 0 }, { name := "EMPTY_MAP", type := (.object "java/util/Map"), accessFlags := 25, slot := 11, constantValue := 0 }]
  methods := #[k23m0, k23m1]
  instanceTypes := #[]
  staticTypes := #[.int, .int, .int, .int, .int, .int, .int, .int, (.object "java/util/Random"), (.object "java/util/Set"), (.object "java/util/List"), (.object "java/util/Map")]
  resolved := Array.replicate 933 none
  statics := none }

def pool24 : Array CpInfo := pool [(1, .methodref 2 3), (0, .class_ 4), (0, .nameAndType 5 6), (0, u "java/lang/Object"), (0, u "<init>"), (0, u "()V"), (3, .fieldref 11 12), (0, .class_ 13), (0, .nameAndType 14 15), (0, u "java/util/Collections$UnmodifiableCollection"), (0, u "c"), (0, u "Ljava/util/Collection;"), (1, .class_ 19), (1, u "java/util/Collection"), (51, .class_ 72), (0, u "java/io/Serializable"), (0, u "serialVersionUID"), (0, u "J"), (5, u "(Ljava/util/Collection;)V"), (51, .class_ 133), (0, u "java/util/Collections")] 2

def k24c0 : Code := { maxStack := 2, maxLocals := 2, code := jdk_119_method_1_code, exceptionTable := #[], attributes := #[] }
def k24m0 : Method := { name := "<init>", desc := "(Ljava/util/Collection;)V", sig := { parameters := [(.object "java/util/Collection")], returnType := none }, accessFlags := 0, code := some k24c0 }
/-- java/util/Collections$UnmodifiableCollection -/
def k24 : Class := { plain "java/util/Collections$UnmodifiableCollection" (some 0) with
  accessFlags := 32
  interfaces := #[12, 4]
  cf := some (fileOf pool24 11 #[.nestHost 132] #[{ accessFlags := 0, nameIndex := 5, descriptorIndex := 80, attributes := #[] }] 32 2 #[17, 71] #[{ accessFlags := 26, nameIndex := 73, descriptorIndex := 74, attributes := #[] }, { accessFlags := 16, nameIndex := 14, descriptorIndex := 15, attributes := #[] }])
  fields := #[{ name := "serialVersionUID", type := .long, accessFlags := 26, slot := 0, constantValue := 0 }, { name := "c", type := (.object "java/util/Collection"), accessFlags := 16, slot := 0, constantValue := 0 }]
  methods := #[k24m0]
  instanceTypes := #[(.object "java/util/Collection")]
  staticTypes := #[.long]
  resolved := Array.replicate 136 none
  statics := none }

def pool25 : Array CpInfo := pool [(1, .methodref 2 3), (0, .class_ 4), (0, .nameAndType 5 6), (0, u "java/util/Collections$UnmodifiableCollection"), (0, u "<init>"), (0, u "(Ljava/util/Collection;)V"), (0, .fieldref 8 9), (0, .class_ 10), (0, .nameAndType 11 12), (0, u "java/util/Collections$UnmodifiableList"), (0, u "list"), (0, u "Ljava/util/List;"), (1, .class_ 16), (1, u "java/util/List"), (37, u "(Ljava/util/List;)V"), (5, u "serialVersionUID"), (0, u "J"), (59, .class_ 122), (0, u "java/util/Collections")] 4

def k25c0 : Code := { maxStack := 2, maxLocals := 2, code := jdk_120_method_1_code, exceptionTable := #[], attributes := #[] }
def k25m0 : Method := { name := "<init>", desc := "(Ljava/util/List;)V", sig := { parameters := [(.object "java/util/List")], returnType := none }, accessFlags := 0, code := some k25c0 }
/-- java/util/Collections$UnmodifiableList -/
def k25 : Class := { plain "java/util/Collections$UnmodifiableList" (some 24) with
  accessFlags := 32
  interfaces := #[15]
  cf := some (fileOf pool25 8 #[.nestHost 121] #[{ accessFlags := 0, nameIndex := 5, descriptorIndex := 54, attributes := #[] }] 32 2 #[14] #[{ accessFlags := 26, nameIndex := 60, descriptorIndex := 61, attributes := #[] }, { accessFlags := 16, nameIndex := 11, descriptorIndex := 12, attributes := #[] }])
  fields := #[{ name := "serialVersionUID", type := .long, accessFlags := 26, slot := 0, constantValue := 0 }, { name := "list", type := (.object "java/util/List"), accessFlags := 16, slot := 1, constantValue := 0 }]
  methods := #[k25m0]
  instanceTypes := #[(.object "java/util/Collection"), (.object "java/util/List")]
  staticTypes := #[.long]
  resolved := Array.replicate 127 none
  mirror := some 4
  statics := none }

def pool26 : Array CpInfo := pool [(1, .methodref 2 3), (0, .class_ 4), (0, .nameAndType 5 6), (0, u "java/util/Collections$UnmodifiableList"), (0, u "<init>"), (0, u "(Ljava/util/List;)V"), (0, .class_ 8), (0, u "java/util/Collections$UnmodifiableRandomAccessList"), (11, .class_ 21), (0, u "java/util/RandomAccess"), (0, u "serialVersionUID"), (0, u "J"), (23, .class_ 48), (0, u "java/util/Collections")] 3

def k26c0 : Code := { maxStack := 2, maxLocals := 2, code := jdk_121_method_1_code, exceptionTable := #[], attributes := #[] }
def k26m0 : Method := { name := "<init>", desc := "(Ljava/util/List;)V", sig := { parameters := [(.object "java/util/List")], returnType := none }, accessFlags := 0, code := some k26c0 }
/-- java/util/Collections$UnmodifiableRandomAccessList -/
def k26 : Class := { plain "java/util/Collections$UnmodifiableRandomAccessList" (some 25) with
  accessFlags := 32
  interfaces := #[17]
  cf := some (fileOf pool26 7 #[.nestHost 47] #[{ accessFlags := 0, nameIndex := 5, descriptorIndex := 6, attributes := #[] }] 32 2 #[20] #[{ accessFlags := 26, nameIndex := 22, descriptorIndex := 23, attributes := #[] }])
  fields := #[{ name := "serialVersionUID", type := .long, accessFlags := 26, slot := 0, constantValue := 0 }]
  methods := #[k26m0]
  instanceTypes := #[(.object "java/util/Collection"), (.object "java/util/List")]
  staticTypes := #[.long]
  resolved := Array.replicate 52 none
  mirror := some 5
  statics := none }

def pool27 : Array CpInfo := pool [(4, .class_ 6), (1, u "java/lang/Object"), (0, u "<init>"), (0, u "()V"), (5, .class_ 16), (1, u "java/lang/StringLatin1"), (73, u "canEncode"), (14, u "(C)Z"), (15, u "$assertionsDisabled"), (0, u "Z"), (98, .class_ 223), (1, u "java/lang/StringLatin1$LinesSpliterator"), (156, u "toBytes"), (1, u "(C)[B"), (7, .class_ 391), (0, u "java/lang/StringLatin1$CharsSpliterator")] 3

def k27m0 : Method := { name := "<init>", desc := "()V", sig := { parameters := [], returnType := none }, accessFlags := 0, code := none }
def k27c1 : Code := { maxStack := 2, maxLocals := 1, code := jdk_43_method_3_code, exceptionTable := #[], attributes := #[] }
def k27m1 : Method := { name := "canEncode", desc := "(C)Z", sig := { parameters := [.char], returnType := some .boolean }, accessFlags := 9, code := some k27c1 }
def k27c2 : Code := { maxStack := 4, maxLocals := 1, code := jdk_43_method_46_code, exceptionTable := #[], attributes := #[] }
def k27m2 : Method := { name := "toBytes", desc := "(C)[B", sig := { parameters := [.char], returnType := some (.array .byte) }, accessFlags := 9, code := some k27c2 }
/-- java/lang/StringLatin1 -/
def k27 : Class := { plain "java/lang/StringLatin1" (some 0) with
  accessFlags := 48
  interfaces := #[]
  cf := some (fileOf pool27 14 #[.nestMembers #[390, 221]] #[{ accessFlags := 0, nameIndex := 7, descriptorIndex := 8, attributes := #[] }, { accessFlags := 9, nameIndex := 90, descriptorIndex := 105, attributes := #[] }, { accessFlags := 9, nameIndex := 380, descriptorIndex := 382, attributes := #[] }] 48 4 #[] #[{ accessFlags := 4120, nameIndex := 121, descriptorIndex := 122, attributes := #[] }])
  fields := #[{ name := "$assertionsDisabled", type := .boolean, accessFlags := 4120, slot := 0, constantValue := 0 }]
  methods := #[k27m0, k27m1, k27m2]
  instanceTypes := #[]
  staticTypes := #[.boolean]
  resolved := Array.replicate 395 none
  statics := none }

def pool28 : Array CpInfo := pool [(2, .class_ 4), (1, u "java/lang/Object"), (0, u "<init>"), (0, u "()V"), (17, .class_ 26), (1, u "jdk/internal/util/Preconditions"), (28, .class_ 56), (0, u "jdk/internal/util/Preconditions$4"), (57, .class_ 115), (0, u "jdk/internal/util/Preconditions$1"), (7, u "SIOOBE_FORMATTER"), (0, u "Ljava/util/function/BiFunction;"), (0, .class_ 126), (0, u "jdk/internal/util/Preconditions$2"), (3, u "AIOOBE_FORMATTER"), (0, .class_ 132), (0, u "jdk/internal/util/Preconditions$3"), (3, u "IOOBE_FORMATTER")] 57

def k28m0 : Method := { name := "<init>", desc := "()V", sig := { parameters := [], returnType := none }, accessFlags := 1, code := none }
/-- jdk/internal/util/Preconditions -/
def k28 : Class := { plain "jdk/internal/util/Preconditions" (some 0) with
  accessFlags := 33
  interfaces := #[]
  cf := some (fileOf pool28 24 #[.nestMembers #[55, 131, 125, 114]] #[{ accessFlags := 1, nameIndex := 5, descriptorIndex := 6, attributes := #[] }] 33 2 #[] #[{ accessFlags := 25, nameIndex := 123, descriptorIndex := 124, attributes := #[] }, { accessFlags := 25, nameIndex := 130, descriptorIndex := 124, attributes := #[] }, { accessFlags := 25, nameIndex := 136, descriptorIndex := 124, attributes := #[] }])
  fields := #[{ name := "SIOOBE_FORMATTER", type := (.object "java/util/function/BiFunction"), accessFlags := 25, slot := 0, constantValue := 0 }, { name := "AIOOBE_FORMATTER", type := (.object "java/util/function/BiFunction"), accessFlags := 25, slot := 1, constantValue := 0 }, { name := "IOOBE_FORMATTER", type := (.object "java/util/function/BiFunction"), accessFlags := 25, slot := 2, constantValue := 0 }]
  methods := #[k28m0]
  instanceTypes := #[]
  staticTypes := #[(.object "java/util/function/BiFunction"), (.object "java/util/function/BiFunction"), (.object "java/util/function/BiFunction")]
  resolved := Array.replicate 194 none
  statics := some 2 }

def pool29 : Array CpInfo := pool [(9, u "<init>"), (6, .class_ 18), (1, u "java/lang/Object"), (0, u "()V"), (1, .class_ 23), (1, u "jdk/internal/util/ArraysSupport"), (0, u "LOG2_ARRAY_LONG_INDEX_SCALE"), (0, u "I"), (2, u "U"), (0, u "Ljdk/internal/misc/Unsafe;"), (8, u "BIG_ENDIAN"), (0, u "Z"), (8, u "LOG2_BYTE_BIT_SIZE"), (4, u "LOG2_ARRAY_INT_INDEX_SCALE"), (54, u "JLA"), (0, u "Ljdk/internal/access/JavaLangAccess;"), (11, u "LOG2_ARRAY_BOOLEAN_INDEX_SCALE"), (9, u "LOG2_ARRAY_BYTE_INDEX_SCALE"), (5, u "LOG2_ARRAY_CHAR_INDEX_SCALE"), (5, u "LOG2_ARRAY_SHORT_INDEX_SCALE"), (18, u "LOG2_ARRAY_FLOAT_INDEX_SCALE"), (24, u "LOG2_ARRAY_DOUBLE_INDEX_SCALE"), (89, u "T_BOOLEAN"), (2, u "T_CHAR"), (1, u "T_FLOAT"), (1, u "T_DOUBLE"), (1, u "T_BYTE"), (1, u "T_SHORT"), (1, u "T_INT"), (1, u "T_LONG"), (1, u "SOFT_MAX_ARRAY_LENGTH")] 83

def k29m0 : Method := { name := "<init>", desc := "()V", sig := { parameters := [], returnType := none }, accessFlags := 2, code := none }
/-- jdk/internal/util/ArraysSupport -/
def k29 : Class := { plain "jdk/internal/util/ArraysSupport" (some 0) with
  accessFlags := 33
  interfaces := #[]
  cf := some (fileOf pool29 21 #[] #[{ accessFlags := 2, nameIndex := 9, descriptorIndex := 19, attributes := #[] }] 33 16 #[] #[{ accessFlags := 24, nameIndex := 28, descriptorIndex := 29, attributes := #[] }, { accessFlags := 26, nameIndex := 38, descriptorIndex := 39, attributes := #[] }, { accessFlags := 25, nameIndex := 121, descriptorIndex := 25, attributes := #[] }, { accessFlags := 25, nameIndex := 131, descriptorIndex := 25, attributes := #[] }, { accessFlags := 25, nameIndex := 137, descriptorIndex := 25, attributes := #[] }, { accessFlags := 25, nameIndex := 143, descriptorIndex := 25, attributes := #[] }, { accessFlags := 25, nameIndex := 53, descriptorIndex := 25, attributes := #[] }, { accessFlags := 25, nameIndex := 24, descriptorIndex := 25, attributes := #[] }, { accessFlags := 25, nameIndex := 162, descriptorIndex := 25, attributes := #[] }, { accessFlags := 25, nameIndex := 187, descriptorIndex := 25, attributes := #[] }, { accessFlags := 26, nameIndex := 48, descriptorIndex := 25, attributes := #[] }, { accessFlags := 25, nameIndex := 277, descriptorIndex := 25, attributes := #[] }, { accessFlags := 25, nameIndex := 280, descriptorIndex := 25, attributes := #[] }, { accessFlags := 25, nameIndex := 282, descriptorIndex := 25, attributes := #[] }, { accessFlags := 25, nameIndex := 284, descriptorIndex := 25, attributes := #[] }, { accessFlags := 25, nameIndex := 286, descriptorIndex := 25, attributes := #[] }, { accessFlags := 25, nameIndex := 288, descriptorIndex := 25, attributes := #[] }, { accessFlags := 25, nameIndex := 290, descriptorIndex := 25, attributes := #[] }, { accessFlags := 25, nameIndex := 292, descriptorIndex := 25, attributes := #[] }, { accessFlags := 26, nameIndex := 108, descriptorIndex := 109, attributes := #[] }, { accessFlags := 25, nameIndex := 294, descriptorIndex := 25, attributes := #[] }])
  fields := #[{ name := "U", type := (.object "jdk/internal/misc/Unsafe"), accessFlags := 24, slot := 0, constantValue := 0 }, { name := "BIG_ENDIAN", type := .boolean, accessFlags := 26, slot := 1, constantValue := 0 }, { name := "LOG2_ARRAY_BOOLEAN_INDEX_SCALE", type := .int, accessFlags := 25, slot := 2, constantValue := 0 }, { name := "LOG2_ARRAY_BYTE_INDEX_SCALE", type := .int, accessFlags := 25, slot := 3, constantValue := 0 }, { name := "LOG2_ARRAY_CHAR_INDEX_SCALE", type := .int, accessFlags := 25, slot := 4, constantValue := 0 }, { name := "LOG2_ARRAY_SHORT_INDEX_SCALE", type := .int, accessFlags := 25, slot := 5, constantValue := 0 }, { name := "LOG2_ARRAY_INT_INDEX_SCALE", type := .int, accessFlags := 25, slot := 6, constantValue := 0 }, { name := "LOG2_ARRAY_LONG_INDEX_SCALE", type := .int, accessFlags := 25, slot := 7, constantValue := 0 }, { name := "LOG2_ARRAY_FLOAT_INDEX_SCALE", type := .int, accessFlags := 25, slot := 8, constantValue := 0 }, { name := "LOG2_ARRAY_DOUBLE_INDEX_SCALE", type := .int, accessFlags := 25, slot := 9, constantValue := 0 }, { name := "LOG2_BYTE_BIT_SIZE", type := .int, accessFlags := 26, slot := 10, constantValue := 0 }, { name := "T_BOOLEAN", type := .int, accessFlags := 25, slot := 11, constantValue := 0 }, { name := "T_CHAR", type := .int, accessFlags := 25, slot := 12, constantValue := 0 }, { name := "T_FLOAT", type := .int, accessFlags := 25, slot := 13, constantValue := 0 }, { name := "T_DOUBLE", type := .int, accessFlags := 25, slot := 14, constantValue := 0 }, { name := "T_BYTE", type := .int, accessFlags := 25, slot := 15, constantValue := 0 }, { name := "T_SHORT", type := .int, accessFlags := 25, slot := 16, constantValue := 0 }, { name := "T_INT", type := .int, accessFlags := 25, slot := 17, constantValue := 0 }, { name := "T_LONG", type := .int, accessFlags := 25, slot := 18, constantValue := 0 }, { name := "JLA", type := (.object "jdk/internal/access/JavaLangAccess"), accessFlags := 26, slot := 19, constantValue := 0 }, { name := "SOFT_MAX_ARRAY_LENGTH", type := .int, accessFlags := 25, slot := 20, constantValue := 0 }]
  methods := #[k29m0]
  instanceTypes := #[]
  staticTypes := #[(.object "jdk/internal/misc/Unsafe"), .boolean, .int, .int, .int, .int, .int, .int, .int, .int, .int, .int, .int, .int, .int, .int, .int, .int, .int, (.object "jdk/internal/access/JavaLangAccess"), .int]
  resolved := Array.replicate 378 none
  statics := none }

def pool30 : Array CpInfo := pool [(1, u "java/lang/Class"), (0, .class_ 1), (0, u "java/lang/Object"), (0, .class_ 3)] 0

/-- java/lang/Class -/
def k30 : Class := { plain "java/lang/Class" (some 0) with
  accessFlags := 49
  interfaces := #[]
  cf := some (fileOf pool30 2 #[] #[] 49 4 #[] #[])
  fields := #[]
  methods := #[]
  instanceTypes := #[]
  staticTypes := #[]
  resolved := Array.replicate 5 none
  statics := none }

/-- the primitive byte -/
def k31 : Class := { plain "byte" none with kind := .primitive 'B', accessFlags := 0x411 }
/-- [B -/
def k32 : Class := { plain "[B" (some 0) with kind := .array 31 .byte, interfaces := #[18, 4], accessFlags := 1041 }

/-- the primitive int -/
def k33 : Class := { plain "int" none with kind := .primitive 'I', accessFlags := 0x411 }
/-- [I -/
def k34 : Class := { plain "[I" (some 0) with kind := .array 33 .int, interfaces := #[18, 4], accessFlags := 1041 }

/-- [Ljava/lang/Object; -/
def k35 : Class := { plain "[Ljava/lang/Object;" (some 0) with kind := .array 0 (.object "java/lang/Object"), interfaces := #[18, 4], accessFlags := 1041 }

def heap : Heap := #[{ cls := 9, slots := #[.long 0, .int 1, .null, .int 0, .null, .int 0, .int 0], vm := .statics 9 },
  { cls := 19, slots := #[.long 0, .int 0, .ref 6, .ref 7], vm := .statics 19 },
  { cls := 28, slots := #[.null, .null, .null], vm := .statics 28 },
  { cls := 30, slots := #[], vm := .mirror 19 },
  { cls := 30, slots := #[], vm := .mirror 25 },
  { cls := 30, slots := #[], vm := .mirror 26 },
  { cls := 35, slots := #[], vm := .none },
  { cls := 35, slots := #[], vm := .none }]
def classes : Array Class := #[k0, k1, k2, k3, k4, k5, k6, k7, k8, k9, k10, k11, k12, k13, k14, k15, k16, k17, k18, k19, k20, k21, k22, k23, k24, k25, k26, k27, k28, k29, k30, k31, k32, k33, k34, k35]
def interned : List (Array UInt16 × Addr) := []
def slotsUsed : Nat := 14
def theMethod : MethodId := ⟨1, 1⟩
def args0 : Array Value := #[.int 0, .int 2, .int 3, .int 4, .int 5, .int 6]
def aboutOver (below : List Frame) : State where
  vm := { classes := classes, interned := interned.toArray }
  heap := heap
  slotsUsed := slotsUsed
  threads := #[{ frames := .invoking theMethod args0 :: below }]
def below0 : List Frame := [.native { method := ⟨0, 0⟩, args := #[] }]
def about1 : State := aboutOver below0
def p0 : Program := .bare "" "" ""
def e0 : Env := launch0.env 0 0 0
theorem w_frames : about1.frames = Frame.invoking theMethod args0 :: below0 := rfl
set_option maxRecDepth 65536 in
theorem w_args : argsFit about1.vm theMethod args0 = true := by decide +kernel
set_option maxRecDepth 65536 in
theorem w_heap : heapFits about1 = true := by decide +kernel
set_option maxRecDepth 65536 in
theorem w_runnable : about1.curStatus? = some .runnable := by decide +kernel
set_option maxRecDepth 65536 in
theorem w_alone : about1.alone = true := by decide +kernel
set_option maxRecDepth 65536 in
theorem w_named : about1.methodNamed? x = some theMethod := by decide +kernel
set_option maxRecDepth 65536 in
theorem w_hears : about1.hears theMethod below0 = true := by decide +kernel
set_option maxRecDepth 65536 in
theorem w_ripe : about1.ripe theMethod args0 below0 = true := by decide +kernel
theorem w_running : about1.status = .running := rfl
set_option maxRecDepth 65536 in
theorem w_room : about1.hasRoom e0.platform room_1 = true :=
  launch0.hasRoom_least _ room_1 (by decide +kernel) (by decide +kernel) (by decide +kernel) (by decide +kernel) (by decide +kernel) (by decide +kernel)
theorem allAtoms_all (ts : List Jvm.Cond) (a : Array Jvm.Value) (st : Jvm.State) : (allAtoms ts).before a st = ts.all (fun c => c.before a st) := by
  induction ts with
  | nil => rfl
  | cons c t ih =>
    show (Jvm.Cond.and c (allAtoms t)).before a st = _
    rw [Jvm.Cond.before_and, ih, List.all_cons]
def words1 : List Jvm.Cond := Jvm.Cond.code x code maxLocals ret :: tables_1
/-- a 'code' word, met by the world's own term for the bytes: nothing is compared byte by byte -/
theorem code_word {y : MethodName} {bytes : ByteArray} {mx : Nat} {rt : Option FieldType} {a : Array Value} {s : State} {m : MethodId} {meth : Method} {c : Code} (h1 : s.methodNamed? y = some m) (h2 : s.vm.method? m = some meth) (h3 : meth.code = some c) (h4 : c.code = bytes)
    (h5 : (c.maxLocals == mx && c.exceptionTable.isEmpty && decide (c.maxStack ≤ mostOperands) && decide (meth.sig.returnType = rt) && !meth.locks && decide (parseMethodDescriptor y.desc = some meth.sig)) = true) : (Jvm.Cond.code y bytes mx rt).before a s = true := by
  simp only [Bool.and_eq_true, beq_iff_eq, Bool.not_eq_true', decide_eq_true_eq] at h5
  obtain ⟨⟨⟨⟨⟨g1, g2⟩, g3⟩, g4⟩, g5⟩, g6⟩ := h5
  simp [Cond.before, Cond.holds, Cond.value, h1, h2, h3, h4, g1, g2, g3, g4, g5, g6]
def isCode : Jvm.Cond → Bool
  | .code _ _ _ _ => true
  | _ => false
theorem all_split {L : List Jvm.Cond} {P : Jvm.Cond → Bool} (h1 : L.all (fun c => isCode c || P c) = true) (h2 : ∀ c ∈ L.filter isCode, P c = true) : L.all P = true := by
  refine List.all_eq_true.mpr fun c hc => ?_
  have h := List.all_eq_true.mp h1 c hc
  rcases Bool.eq_false_or_eq_true (isCode c) with hi | hi
  · exact h2 c (List.mem_filter.mpr ⟨hc, hi⟩)
  · simpa [hi] using h
set_option maxRecDepth 65536 in
theorem w_c0 : (Jvm.Cond.code x code maxLocals ret).before args0 about1 = true := code_word (m := ⟨1, 1⟩) (meth := k1m1) (c := k1c1) (by decide +kernel) rfl rfl rfl (by decide +kernel)
set_option maxRecDepth 65536 in
theorem w_c1 : (Jvm.Cond.code ({ cls := "com/example/trailcaster/trailcaster/model/CodedValue", name := "<init>", desc := "(Ljava/lang/String;Ljava/lang/String;Ljava/lang/String;)V" } : Jvm.MethodName) prog_45_method_1_code (4 : Nat) (Option.none : Option Jvm.ClassFile.FieldType)).before args0 about1 = true := code_word (m := ⟨3, 0⟩) (meth := k3m0) (c := k3c0) (by decide +kernel) rfl rfl rfl (by decide +kernel)
set_option maxRecDepth 65536 in
theorem w_c2 : (Jvm.Cond.code ({ cls := "java/lang/Record", name := "<init>", desc := "()V" } : Jvm.MethodName) jdk_30_method_1_code (1 : Nat) (Option.none : Option Jvm.ClassFile.FieldType)).before args0 about1 = true := code_word (m := ⟨2, 0⟩) (meth := k2m0) (c := k2c0) (by decide +kernel) rfl rfl rfl (by decide +kernel)
set_option maxRecDepth 65536 in
theorem w_c3 : (Jvm.Cond.code ({ cls := "java/lang/Object", name := "<init>", desc := "()V" } : Jvm.MethodName) object_method_1_code (1 : Nat) (Option.none : Option Jvm.ClassFile.FieldType)).before args0 about1 = true := code_word (m := ⟨0, 0⟩) (meth := k0m0) (c := k0c0) (by decide +kernel) rfl rfl rfl (by decide +kernel)
set_option maxRecDepth 65536 in
theorem w_c4 : (Jvm.Cond.code ({ cls := "com/example/trailcaster/trailcaster/model/Checks", name := "text", desc := "(Ljava/lang/String;Ljava/lang/String;)Ljava/lang/String;" } : Jvm.MethodName) prog_44_method_3_code (2 : Nat) (Option.some (Jvm.ClassFile.FieldType.object "java/lang/String"))).before args0 about1 = true := code_word (m := ⟨10, 2⟩) (meth := k10m2) (c := k10c2) (by decide +kernel) rfl rfl rfl (by decide +kernel)
set_option maxRecDepth 65536 in
theorem w_c5 : (Jvm.Cond.code ({ cls := "com/example/trailcaster/trailcaster/model/Checks", name := "required", desc := "(Ljava/lang/Object;Ljava/lang/String;)Ljava/lang/Object;" } : Jvm.MethodName) prog_44_method_2_code (2 : Nat) (Option.some (Jvm.ClassFile.FieldType.object "java/lang/Object"))).before args0 about1 = true := code_word (m := ⟨10, 1⟩) (meth := k10m1) (c := k10c1) (by decide +kernel) rfl rfl rfl (by decide +kernel)
set_option maxRecDepth 65536 in
theorem w_c6 : (Jvm.Cond.code ({ cls := "java/lang/String", name := "isEmpty", desc := "()Z" } : Jvm.MethodName) jdk_42_method_55_code (1 : Nat) (Option.some Jvm.ClassFile.FieldType.boolean)).before args0 about1 = true := code_word (m := ⟨9, 1⟩) (meth := k9m1) (c := k9c1) (by decide +kernel) rfl rfl rfl (by decide +kernel)
set_option maxRecDepth 65536 in
theorem w_c7 : (Jvm.Cond.code ({ cls := "java/util/ArrayList", name := "<init>", desc := "()V" } : Jvm.MethodName) jdk_38_method_2_code (1 : Nat) (Option.none : Option Jvm.ClassFile.FieldType)).before args0 about1 = true := code_word (m := ⟨19, 1⟩) (meth := k19m1) (c := k19c1) (by decide +kernel) rfl rfl rfl (by decide +kernel)
set_option maxRecDepth 65536 in
theorem w_c8 : (Jvm.Cond.code ({ cls := "java/util/AbstractList", name := "<init>", desc := "()V" } : Jvm.MethodName) jdk_39_method_1_code (1 : Nat) (Option.none : Option Jvm.ClassFile.FieldType)).before args0 about1 = true := code_word (m := ⟨16, 0⟩) (meth := k16m0) (c := k16c0) (by decide +kernel) rfl rfl rfl (by decide +kernel)
set_option maxRecDepth 65536 in
theorem w_c9 : (Jvm.Cond.code ({ cls := "java/util/AbstractCollection", name := "<init>", desc := "()V" } : Jvm.MethodName) jdk_22_method_1_code (1 : Nat) (Option.none : Option Jvm.ClassFile.FieldType)).before args0 about1 = true := code_word (m := ⟨13, 0⟩) (meth := k13m0) (c := k13c0) (by decide +kernel) rfl rfl rfl (by decide +kernel)
set_option maxRecDepth 65536 in
theorem w_c10 : (Jvm.Cond.code ({ cls := "com/example/trailcaster/trailcaster/model/ParticipantObjectQueryPinLaw", name := "set", desc := "([BII)V" } : Jvm.MethodName) method_3_code (3 : Nat) (Option.none : Option Jvm.ClassFile.FieldType)).before args0 about1 = true := code_word (m := ⟨1, 2⟩) (meth := k1m2) (c := k1c2) (by decide +kernel) rfl rfl rfl (by decide +kernel)
set_option maxRecDepth 65536 in
theorem w_c11 : (Jvm.Cond.code ({ cls := "com/example/trailcaster/trailcaster/model/ParticipantObject", name := "<init>", desc := "(Ljava/lang/String;Ljava/lang/String;Ljava/lang/String;Lcom/example/trailcaster/trailcaster/model/CodedValue;Ljava/lang/String;[BLjava/util/List;Lcom/example/trailcaster/trailcaster/model/DicomObjectDescription;)V" } : Jvm.MethodName) prog_75_method_1_code (9 : Nat) (Option.none : Option Jvm.ClassFile.FieldType)).before args0 about1 = true := code_word (m := ⟨20, 0⟩) (meth := k20m0) (c := k20c0) (by decide +kernel) rfl rfl rfl (by decide +kernel)
set_option maxRecDepth 65536 in
theorem w_c12 : (Jvm.Cond.code ({ cls := "com/example/trailcaster/trailcaster/model/Checks", name := "optionalText", desc := "(Ljava/lang/String;Ljava/lang/String;)Ljava/lang/String;" } : Jvm.MethodName) prog_44_method_4_code (3 : Nat) (Option.some (Jvm.ClassFile.FieldType.object "java/lang/String"))).before args0 about1 = true := code_word (m := ⟨10, 3⟩) (meth := k10m3) (c := k10c3) (by decide +kernel) rfl rfl rfl (by decide +kernel)
set_option maxRecDepth 65536 in
theorem w_c13 : (Jvm.Cond.code ({ cls := "com/example/trailcaster/trailcaster/model/Checks", name := "list", desc := "(Ljava/util/List;Ljava/lang/String;)Ljava/util/List;" } : Jvm.MethodName) prog_44_method_8_code (5 : Nat) (Option.some (Jvm.ClassFile.FieldType.object "java/util/List"))).before args0 about1 = true := code_word (m := ⟨10, 4⟩) (meth := k10m4) (c := k10c4) (by decide +kernel) rfl rfl rfl (by decide +kernel)
set_option maxRecDepth 65536 in
theorem w_c14 : (Jvm.Cond.code ({ cls := "java/util/ArrayList", name := "size", desc := "()I" } : Jvm.MethodName) jdk_38_method_8_code (1 : Nat) (Option.some Jvm.ClassFile.FieldType.int)).before args0 about1 = true := code_word (m := ⟨19, 2⟩) (meth := k19m2) (c := k19c2) (by decide +kernel) rfl rfl rfl (by decide +kernel)
set_option maxRecDepth 65536 in
theorem w_c15 : (Jvm.Cond.code ({ cls := "java/util/ArrayList", name := "<init>", desc := "(I)V" } : Jvm.MethodName) jdk_38_method_1_code (2 : Nat) (Option.none : Option Jvm.ClassFile.FieldType)).before args0 about1 = true := code_word (m := ⟨19, 0⟩) (meth := k19m0) (c := k19c0) (by decide +kernel) rfl rfl rfl (by decide +kernel)
set_option maxRecDepth 65536 in
theorem w_c16 : (Jvm.Cond.code ({ cls := "java/util/ArrayList", name := "iterator", desc := "()Ljava/util/Iterator;" } : Jvm.MethodName) jdk_38_method_55_code (1 : Nat) (Option.some (Jvm.ClassFile.FieldType.object "java/util/Iterator"))).before args0 about1 = true := code_word (m := ⟨19, 3⟩) (meth := k19m3) (c := k19c3) (by decide +kernel) rfl rfl rfl (by decide +kernel)
set_option maxRecDepth 65536 in
theorem w_c17 : (Jvm.Cond.code ({ cls := "java/util/ArrayList$Itr", name := "<init>", desc := "(Ljava/util/ArrayList;)V" } : Jvm.MethodName) jdk_49_method_1_code (2 : Nat) (Option.none : Option Jvm.ClassFile.FieldType)).before args0 about1 = true := code_word (m := ⟨22, 0⟩) (meth := k22m0) (c := k22c0) (by decide +kernel) rfl rfl rfl (by decide +kernel)
set_option maxRecDepth 65536 in
theorem w_c18 : (Jvm.Cond.code ({ cls := "java/util/ArrayList$Itr", name := "hasNext", desc := "()Z" } : Jvm.MethodName) jdk_49_method_2_code (1 : Nat) (Option.some Jvm.ClassFile.FieldType.boolean)).before args0 about1 = true := code_word (m := ⟨22, 1⟩) (meth := k22m1) (c := k22c1) (by decide +kernel) rfl rfl rfl (by decide +kernel)
set_option maxRecDepth 65536 in
theorem w_c19 : (Jvm.Cond.code ({ cls := "java/util/Collections", name := "unmodifiableList", desc := "(Ljava/util/List;)Ljava/util/List;" } : Jvm.MethodName) jdk_79_method_35_code (1 : Nat) (Option.some (Jvm.ClassFile.FieldType.object "java/util/List"))).before args0 about1 = true := code_word (m := ⟨23, 1⟩) (meth := k23m1) (c := k23c1) (by decide +kernel) rfl rfl rfl (by decide +kernel)
set_option maxRecDepth 65536 in
theorem w_c20 : (Jvm.Cond.code ({ cls := "java/util/Collections$UnmodifiableRandomAccessList", name := "<init>", desc := "(Ljava/util/List;)V" } : Jvm.MethodName) jdk_121_method_1_code (2 : Nat) (Option.none : Option Jvm.ClassFile.FieldType)).before args0 about1 = true := code_word (m := ⟨26, 0⟩) (meth := k26m0) (c := k26c0) (by decide +kernel) rfl rfl rfl (by decide +kernel)
set_option maxRecDepth 65536 in
theorem w_c21 : (Jvm.Cond.code ({ cls := "java/util/Collections$UnmodifiableList", name := "<init>", desc := "(Ljava/util/List;)V" } : Jvm.MethodName) jdk_120_method_1_code (2 : Nat) (Option.none : Option Jvm.ClassFile.FieldType)).before args0 about1 = true := code_word (m := ⟨25, 0⟩) (meth := k25m0) (c := k25c0) (by decide +kernel) rfl rfl rfl (by decide +kernel)
set_option maxRecDepth 65536 in
theorem w_c22 : (Jvm.Cond.code ({ cls := "java/util/Collections$UnmodifiableCollection", name := "<init>", desc := "(Ljava/util/Collection;)V" } : Jvm.MethodName) jdk_119_method_1_code (2 : Nat) (Option.none : Option Jvm.ClassFile.FieldType)).before args0 about1 = true := code_word (m := ⟨24, 0⟩) (meth := k24m0) (c := k24c0) (by decide +kernel) rfl rfl rfl (by decide +kernel)
set_option maxRecDepth 65536 in
theorem w_c23 : (Jvm.Cond.code ({ cls := "com/example/trailcaster/trailcaster/model/ParticipantObjectQueryPinLaw", name := "flip", desc := "([BI)V" } : Jvm.MethodName) method_4_code (2 : Nat) (Option.none : Option Jvm.ClassFile.FieldType)).before args0 about1 = true := code_word (m := ⟨1, 3⟩) (meth := k1m3) (c := k1c3) (by decide +kernel) rfl rfl rfl (by decide +kernel)
set_option maxRecDepth 65536 in
theorem w_c24 : (Jvm.Cond.code ({ cls := "com/example/trailcaster/trailcaster/model/ParticipantObject", name := "query", desc := "()[B" } : Jvm.MethodName) prog_75_method_2_code (1 : Nat) (Option.some (Jvm.ClassFile.FieldType.array Jvm.ClassFile.FieldType.byte))).before args0 about1 = true := code_word (m := ⟨20, 1⟩) (meth := k20m1) (c := k20c1) (by decide +kernel) rfl rfl rfl (by decide +kernel)
set_option maxRecDepth 65536 in
theorem w_c25 : (Jvm.Cond.code ({ cls := "com/example/trailcaster/trailcaster/model/ParticipantObjectQueryPinLaw", name := "same", desc := "([BIIIII)Z" } : Jvm.MethodName) method_6_code (6 : Nat) (Option.some Jvm.ClassFile.FieldType.boolean)).before args0 about1 = true := code_word (m := ⟨1, 5⟩) (meth := k1m5) (c := k1c5) (by decide +kernel) rfl rfl rfl (by decide +kernel)
set_option maxRecDepth 65536 in
theorem w_c26 : (Jvm.Cond.code ({ cls := "com/example/trailcaster/trailcaster/model/ParticipantObjectQueryPinLaw", name := "at", desc := "([BII)Z" } : Jvm.MethodName) method_5_code (3 : Nat) (Option.some Jvm.ClassFile.FieldType.boolean)).before args0 about1 = true := code_word (m := ⟨1, 4⟩) (meth := k1m4) (c := k1c4) (by decide +kernel) rfl rfl rfl (by decide +kernel)
set_option maxRecDepth 65536 in
theorem w_c27 : (Jvm.Cond.code ({ cls := "java/lang/String", name := "valueOf", desc := "(C)Ljava/lang/String;" } : Jvm.MethodName) jdk_42_method_139_code (1 : Nat) (Option.some (Jvm.ClassFile.FieldType.object "java/lang/String"))).before args0 about1 = true := code_word (m := ⟨9, 2⟩) (meth := k9m2) (c := k9c2) (by decide +kernel) rfl rfl rfl (by decide +kernel)
set_option maxRecDepth 65536 in
theorem w_c28 : (Jvm.Cond.code ({ cls := "java/lang/StringLatin1", name := "canEncode", desc := "(C)Z" } : Jvm.MethodName) jdk_43_method_3_code (1 : Nat) (Option.some Jvm.ClassFile.FieldType.boolean)).before args0 about1 = true := code_word (m := ⟨27, 1⟩) (meth := k27m1) (c := k27c1) (by decide +kernel) rfl rfl rfl (by decide +kernel)
set_option maxRecDepth 65536 in
theorem w_c29 : (Jvm.Cond.code ({ cls := "java/lang/StringLatin1", name := "toBytes", desc := "(C)[B" } : Jvm.MethodName) jdk_43_method_46_code (1 : Nat) (Option.some (Jvm.ClassFile.FieldType.array Jvm.ClassFile.FieldType.byte))).before args0 about1 = true := code_word (m := ⟨27, 2⟩) (meth := k27m2) (c := k27c2) (by decide +kernel) rfl rfl rfl (by decide +kernel)
set_option maxRecDepth 65536 in
theorem w_c30 : (Jvm.Cond.code ({ cls := "java/lang/String", name := "<init>", desc := "([BB)V" } : Jvm.MethodName) jdk_42_method_151_code (3 : Nat) (Option.none : Option Jvm.ClassFile.FieldType)).before args0 about1 = true := code_word (m := ⟨9, 3⟩) (meth := k9m3) (c := k9c3) (by decide +kernel) rfl rfl rfl (by decide +kernel)
def codes1 : List Jvm.Cond := [Jvm.Cond.code x code maxLocals ret, Jvm.Cond.code ({ cls := "com/example/trailcaster/trailcaster/model/CodedValue", name := "<init>", desc := "(Ljava/lang/String;Ljava/lang/String;Ljava/lang/String;)V" } : Jvm.MethodName) prog_45_method_1_code (4 : Nat) (Option.none : Option Jvm.ClassFile.FieldType), Jvm.Cond.code ({ cls := "java/lang/Record", name := "<init>", desc := "()V" } : Jvm.MethodName) jdk_30_method_1_code (1 : Nat) (Option.none : Option Jvm.ClassFile.FieldType), Jvm.Cond.code ({ cls := "java/lang/Object", name := "<init>", desc := "()V" } : Jvm.MethodName) object_method_1_code (1 : Nat) (Option.none : Option Jvm.ClassFile.FieldType), Jvm.Cond.code ({ cls := "com/example/trailcaster/trailcaster/model/Checks", name := "text", desc := "(Ljava/lang/String;Ljava/lang/String;)Ljava/lang/String;" } : Jvm.MethodName) prog_44_method_3_code (2 : Nat) (Option.some (Jvm.ClassFile.FieldType.object "java/lang/String")), Jvm.Cond.code ({ cls := "com/example/trailcaster/trailcaster/model/Checks", name := "required", desc := "(Ljava/lang/Object;Ljava/lang/String;)Ljava/lang/Object;" } : Jvm.MethodName) prog_44_method_2_code (2 : Nat) (Option.some (Jvm.ClassFile.FieldType.object "java/lang/Object")), Jvm.Cond.code ({ cls := "java/lang/String", name := "isEmpty", desc := "()Z" } : Jvm.MethodName) jdk_42_method_55_code (1 : Nat) (Option.some Jvm.ClassFile.FieldType.boolean), Jvm.Cond.code ({ cls := "java/util/ArrayList", name := "<init>", desc := "()V" } : Jvm.MethodName) jdk_38_method_2_code (1 : Nat) (Option.none : Option Jvm.ClassFile.FieldType), Jvm.Cond.code ({ cls := "java/util/AbstractList", name := "<init>", desc := "()V" } : Jvm.MethodName) jdk_39_method_1_code (1 : Nat) (Option.none : Option Jvm.ClassFile.FieldType), Jvm.Cond.code ({ cls := "java/util/AbstractCollection", name := "<init>", desc := "()V" } : Jvm.MethodName) jdk_22_method_1_code (1 : Nat) (Option.none : Option Jvm.ClassFile.FieldType), Jvm.Cond.code ({ cls := "com/example/trailcaster/trailcaster/model/ParticipantObjectQueryPinLaw", name := "set", desc := "([BII)V" } : Jvm.MethodName) method_3_code (3 : Nat) (Option.none : Option Jvm.ClassFile.FieldType), Jvm.Cond.code ({ cls := "com/example/trailcaster/trailcaster/model/ParticipantObject", name := "<init>", desc := "(Ljava/lang/String;Ljava/lang/String;Ljava/lang/String;Lcom/example/trailcaster/trailcaster/model/CodedValue;Ljava/lang/String;[BLjava/util/List;Lcom/example/trailcaster/trailcaster/model/DicomObjectDescription;)V" } : Jvm.MethodName) prog_75_method_1_code (9 : Nat) (Option.none : Option Jvm.ClassFile.FieldType), Jvm.Cond.code ({ cls := "com/example/trailcaster/trailcaster/model/Checks", name := "optionalText", desc := "(Ljava/lang/String;Ljava/lang/String;)Ljava/lang/String;" } : Jvm.MethodName) prog_44_method_4_code (3 : Nat) (Option.some (Jvm.ClassFile.FieldType.object "java/lang/String")), Jvm.Cond.code ({ cls := "com/example/trailcaster/trailcaster/model/Checks", name := "list", desc := "(Ljava/util/List;Ljava/lang/String;)Ljava/util/List;" } : Jvm.MethodName) prog_44_method_8_code (5 : Nat) (Option.some (Jvm.ClassFile.FieldType.object "java/util/List")), Jvm.Cond.code ({ cls := "java/util/ArrayList", name := "size", desc := "()I" } : Jvm.MethodName) jdk_38_method_8_code (1 : Nat) (Option.some Jvm.ClassFile.FieldType.int), Jvm.Cond.code ({ cls := "java/util/ArrayList", name := "<init>", desc := "(I)V" } : Jvm.MethodName) jdk_38_method_1_code (2 : Nat) (Option.none : Option Jvm.ClassFile.FieldType), Jvm.Cond.code ({ cls := "java/util/ArrayList", name := "iterator", desc := "()Ljava/util/Iterator;" } : Jvm.MethodName) jdk_38_method_55_code (1 : Nat) (Option.some (Jvm.ClassFile.FieldType.object "java/util/Iterator")), Jvm.Cond.code ({ cls := "java/util/ArrayList$Itr", name := "<init>", desc := "(Ljava/util/ArrayList;)V" } : Jvm.MethodName) jdk_49_method_1_code (2 : Nat) (Option.none : Option Jvm.ClassFile.FieldType), Jvm.Cond.code ({ cls := "java/util/ArrayList$Itr", name := "hasNext", desc := "()Z" } : Jvm.MethodName) jdk_49_method_2_code (1 : Nat) (Option.some Jvm.ClassFile.FieldType.boolean), Jvm.Cond.code ({ cls := "java/util/Collections", name := "unmodifiableList", desc := "(Ljava/util/List;)Ljava/util/List;" } : Jvm.MethodName) jdk_79_method_35_code (1 : Nat) (Option.some (Jvm.ClassFile.FieldType.object "java/util/List")), Jvm.Cond.code ({ cls := "java/util/Collections$UnmodifiableRandomAccessList", name := "<init>", desc := "(Ljava/util/List;)V" } : Jvm.MethodName) jdk_121_method_1_code (2 : Nat) (Option.none : Option Jvm.ClassFile.FieldType), Jvm.Cond.code ({ cls := "java/util/Collections$UnmodifiableList", name := "<init>", desc := "(Ljava/util/List;)V" } : Jvm.MethodName) jdk_120_method_1_code (2 : Nat) (Option.none : Option Jvm.ClassFile.FieldType), Jvm.Cond.code ({ cls := "java/util/Collections$UnmodifiableCollection", name := "<init>", desc := "(Ljava/util/Collection;)V" } : Jvm.MethodName) jdk_119_method_1_code (2 : Nat) (Option.none : Option Jvm.ClassFile.FieldType), Jvm.Cond.code ({ cls := "com/example/trailcaster/trailcaster/model/ParticipantObjectQueryPinLaw", name := "flip", desc := "([BI)V" } : Jvm.MethodName) method_4_code (2 : Nat) (Option.none : Option Jvm.ClassFile.FieldType), Jvm.Cond.code ({ cls := "com/example/trailcaster/trailcaster/model/ParticipantObject", name := "query", desc := "()[B" } : Jvm.MethodName) prog_75_method_2_code (1 : Nat) (Option.some (Jvm.ClassFile.FieldType.array Jvm.ClassFile.FieldType.byte)), Jvm.Cond.code ({ cls := "com/example/trailcaster/trailcaster/model/ParticipantObjectQueryPinLaw", name := "same", desc := "([BIIIII)Z" } : Jvm.MethodName) method_6_code (6 : Nat) (Option.some Jvm.ClassFile.FieldType.boolean), Jvm.Cond.code ({ cls := "com/example/trailcaster/trailcaster/model/ParticipantObjectQueryPinLaw", name := "at", desc := "([BII)Z" } : Jvm.MethodName) method_5_code (3 : Nat) (Option.some Jvm.ClassFile.FieldType.boolean), Jvm.Cond.code ({ cls := "java/lang/String", name := "valueOf", desc := "(C)Ljava/lang/String;" } : Jvm.MethodName) jdk_42_method_139_code (1 : Nat) (Option.some (Jvm.ClassFile.FieldType.object "java/lang/String")), Jvm.Cond.code ({ cls := "java/lang/StringLatin1", name := "canEncode", desc := "(C)Z" } : Jvm.MethodName) jdk_43_method_3_code (1 : Nat) (Option.some Jvm.ClassFile.FieldType.boolean), Jvm.Cond.code ({ cls := "java/lang/StringLatin1", name := "toBytes", desc := "(C)[B" } : Jvm.MethodName) jdk_43_method_46_code (1 : Nat) (Option.some (Jvm.ClassFile.FieldType.array Jvm.ClassFile.FieldType.byte)), Jvm.Cond.code ({ cls := "java/lang/String", name := "<init>", desc := "([BB)V" } : Jvm.MethodName) jdk_42_method_151_code (3 : Nat) (Option.none : Option Jvm.ClassFile.FieldType)]
set_option maxRecDepth 65536 in
theorem codes_eq : words1.filter isCode = codes1 := rfl
theorem w_codes : ∀ c ∈ words1.filter isCode, c.before args0 about1 = true := by
  rw [codes_eq]
  intro c hc
  simp only [codes1, List.mem_cons, List.not_mem_nil, or_false] at hc
  rcases hc with rfl | rfl | rfl | rfl | rfl | rfl | rfl | rfl | rfl | rfl | rfl | rfl | rfl | rfl | rfl | rfl | rfl | rfl | rfl | rfl | rfl | rfl | rfl | rfl | rfl | rfl | rfl | rfl | rfl | rfl | rfl
  · exact w_c0
  · exact w_c1
  · exact w_c2
  · exact w_c3
  · exact w_c4
  · exact w_c5
  · exact w_c6
  · exact w_c7
  · exact w_c8
  · exact w_c9
  · exact w_c10
  · exact w_c11
  · exact w_c12
  · exact w_c13
  · exact w_c14
  · exact w_c15
  · exact w_c16
  · exact w_c17
  · exact w_c18
  · exact w_c19
  · exact w_c20
  · exact w_c21
  · exact w_c22
  · exact w_c23
  · exact w_c24
  · exact w_c25
  · exact w_c26
  · exact w_c27
  · exact w_c28
  · exact w_c29
  · exact w_c30
set_option maxRecDepth 65536 in
theorem w_t1 : (words1.take 24).all (fun c => isCode c || c.before args0 about1) = true := by decide +kernel
set_option maxRecDepth 65536 in
theorem w_t2 : ((words1.drop 24).take 24).all (fun c => isCode c || c.before args0 about1) = true := by decide +kernel
set_option maxRecDepth 65536 in
theorem w_t3 : (((words1.drop 24).drop 24).take 24).all (fun c => isCode c || c.before args0 about1) = true := by decide +kernel
set_option maxRecDepth 65536 in
theorem w_t4 : ((((words1.drop 24).drop 24).drop 24).take 24).all (fun c => isCode c || c.before args0 about1) = true := by decide +kernel
set_option maxRecDepth 65536 in
theorem w_t5 : (((((words1.drop 24).drop 24).drop 24).drop 24).take 24).all (fun c => isCode c || c.before args0 about1) = true := by decide +kernel
set_option maxRecDepth 65536 in
theorem w_t6 : ((((((words1.drop 24).drop 24).drop 24).drop 24).drop 24).take 24).all (fun c => isCode c || c.before args0 about1) = true := by decide +kernel
set_option maxRecDepth 65536 in
theorem w_t7 : (((((((words1.drop 24).drop 24).drop 24).drop 24).drop 24).drop 24).take 24).all (fun c => isCode c || c.before args0 about1) = true := by decide +kernel
set_option maxRecDepth 65536 in
theorem w_t8 : ((((((((words1.drop 24).drop 24).drop 24).drop 24).drop 24).drop 24).drop 24).take 24).all (fun c => isCode c || c.before args0 about1) = true := by decide +kernel
set_option maxRecDepth 65536 in
theorem w_t9 : (((((((((words1.drop 24).drop 24).drop 24).drop 24).drop 24).drop 24).drop 24).drop 24).take 24).all (fun c => isCode c || c.before args0 about1) = true := by decide +kernel
set_option maxRecDepth 65536 in
theorem w_t10 : ((((((((((words1.drop 24).drop 24).drop 24).drop 24).drop 24).drop 24).drop 24).drop 24).drop 24).take 24).all (fun c => isCode c || c.before args0 about1) = true := by decide +kernel
set_option maxRecDepth 65536 in
theorem w_t11 : ((((((((((words1.drop 24).drop 24).drop 24).drop 24).drop 24).drop 24).drop 24).drop 24).drop 24).drop 24).all (fun c => isCode c || c.before args0 about1) = true := by decide +kernel
theorem w_tables : (allAtoms (Jvm.Cond.code x code maxLocals ret :: tables_1)).before args0 about1 = true := by
  rw [allAtoms_all]
  show words1.all (fun c => c.before args0 about1) = true
  refine all_split ?_ w_codes
  rw [← List.take_append_drop 24 words1, List.all_append, w_t1, ← List.take_append_drop 24 (words1.drop 24), List.all_append, w_t2, ← List.take_append_drop 24 ((words1.drop 24).drop 24), List.all_append, w_t3, ← List.take_append_drop 24 (((words1.drop 24).drop 24).drop 24), List.all_append, w_t4, ← List.take_append_drop 24 ((((words1.drop 24).drop 24).drop 24).drop 24), List.all_append, w_t5, ← List.take_append_drop 24 (((((words1.drop 24).drop 24).drop 24).drop 24).drop 24), List.all_append, w_t6, ← List.take_append_drop 24 ((((((words1.drop 24).drop 24).drop 24).drop 24).drop 24).drop 24), List.all_append, w_t7, ← List.take_append_drop 24 (((((((words1.drop 24).drop 24).drop 24).drop 24).drop 24).drop 24).drop 24), List.all_append, w_t8, ← List.take_append_drop 24 ((((((((words1.drop 24).drop 24).drop 24).drop 24).drop 24).drop 24).drop 24).drop 24), List.all_append, w_t9, ← List.take_append_drop 24 (((((((((words1.drop 24).drop 24).drop 24).drop 24).drop 24).drop 24).drop 24).drop 24).drop 24), List.all_append, w_t10, w_t11]
  rfl
set_option maxRecDepth 65536 in
theorem w_rest : rest_1_c.before args0 about1 = true := by decide +kernel
set_option maxRecDepth 65536 in
theorem w_case : (Jvm.Cond.and given_1 narrow_1).before args0 about1 = true := by decide +kernel
set_option maxRecDepth 65536 in
theorem w_consts : constsHeld consts_1 about1 := Jvm.Lit.constsHeldB_iff.mp (by decide +kernel)
theorem w_applies : (headSpec (Jvm.Cond.code x code maxLocals ret :: tables_1) room_1).applies x e0.platform about1 = true :=
  (Spec.applies_iff w_frames).mpr ⟨w_running, w_runnable, w_alone, w_named, w_hears, w_ripe, w_room, w_tables⟩
theorem atStart : AtStart classFile x code maxLocals ret World_1 tables_1 room_1 Calls_1 rest_1 Pre_1 launch0 p0 e0 about1 theMethod args0 below0 :=
  ⟨lists_1, trivial, launch0.admits_env _ _ _, launch0.least_env, fairChoices_fair.cas, fairChoices_fair.clock, w_frames, w_args, w_heap, w_applies, ⟨⟨19, k19, 3, by decide +kernel, rfl, rfl, _, rfl, rfl⟩, ⟨⟨25, k25, 4, by decide +kernel, rfl, rfl, _, rfl, rfl⟩, ⟨⟨26, k26, 5, by decide +kernel, rfl, rfl, _, rfl, rfl⟩, ⟨w_consts, trivial⟩⟩⟩⟩, w_rest, w_case⟩
end start1
theorem witness_1 : WitnessClaimed_1 := ⟨start1.p0, start1.e0, start1.about1, start1.theMethod, start1.args0, start1.below0, start1.atStart⟩
end Jvm.Pilot.@@N@@
