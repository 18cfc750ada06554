import JvmDerived
import JvmDerived.Pilot.@@N@@Statement
import JvmDerived.Pilot.@@N@@Code
set_option linter.unusedVariables false
set_option linter.unusedSimpArgs false
namespace Jvm.RoadKit
open Sem ClassFile Op Lib Jvm.Stand Jvm.Free Jvm.LawKit
section New
variable {p : Program} {l : Launch} {e : Env} {R : Room} {s : State} {m : MethodId} {args : Array Value} {below : List Frame} {meth : Method} {c : Code} {T : State} {locs : List Loc} {cells slots : Nat}
theorem retI (X : Stand p l e R s m args below meth c T locs cells slots) (hx : p.tables.exec = Jvm.exec) {pc : Nat} {Ls : Array Slot} {z : Int32} {rest : List Value} (hret : meth.sig.returnType = some .int) (hd : decode c.code pc = .ok (.ireturn, 1)) {fs : List Frame}
    (hl : ∀ (f : JFrame) (acts : List Action), f.method = m → f.locked = none → f.entered = [] → (doReturn e (T.setTop f) acts (some (.int z))).1 = T.setFrames fs) : Steps p.tables e below (T.setTop (mkF m pc Ls (.int z :: rest))) (T.setFrames fs) := by
  have hm' : T.vm.method? m = some meth := X.method'
  have hn : narrow .int (.int z) = .int z := rfl
  show Steps p.tables e below (T.setTop { method := m, pc := pc, locals := Ls, stack := _ :: rest, locked := none }) _
  jvm_step X.here [X.here.top, hx, hd, hm', hret, hn]
  first | (intro acts; rw [hl _ acts rfl rfl rfl]) | rw [hl _ _ rfl rfl rfl]
  exact Steps.refl _
end New
end Jvm.RoadKit
@@BLOCK:NumsL.lean.txt@@
namespace Jvm.Pilot.@@N@@
open Jvm Jvm.ClassFile Sem Op Lib Jvm.Free Jvm.Stand Jvm.LawKit Jvm.RoadKit Bundle Jvm.Pilot.@@N@@.Jvm.D
/-- a run from here that ends well -/
def own_G (p : Program) (e : Env) (below : List Frame) (P : Outcome → State → Prop) (S : State) : Prop := ∃ s₂ o, Steps p.tables e below S s₂ ∧ s₂.status = .running ∧ Ended s₂ below o ∧ P o s₂
theorem own_go {p : Program} {e : Env} {below : List Frame} {P : Outcome → State → Prop} {S : State} (S' : State) (k : ∀ t, Steps p.tables e below S' t → Steps p.tables e below S t) (h : own_G p e below P S') : own_G p e below P S := by
  obtain ⟨s₂, o, h1, h2⟩ := h
  exact ⟨s₂, o, k _ h1, h2⟩
theorem own_one {x : Slot} (h : One x) : (match x with | .second => False | .val old => old.category = 1 | .unset => True) := by
  rcases h with rfl | ⟨w, rfl, hw⟩
  · trivial
  · exact hw
theorem own_selp {s : State} {args : Array Value} {D : String} {y z : MethodName} (h : (Cond.selects D z z).before args s = true) (hc : z.cls = y.cls) (hpriv : s.PrivateAt y) (hinst : (Cond.instanceMethod y).before args s = true) (hy : y.cls ≠ "java/lang/invoke/MethodHandle" ∧ y.cls ≠ "java/lang/invoke/VarHandle") : (Cond.selects y.cls y y).before args s = true := by
  obtain ⟨c, r, m, q1, q2, q3, q4, mk, hk, hi⟩ := Cond.selects_spec h
  exact selects_self_of_private (hc ▸ findClass_of_methodNamed q3) hk hi hpriv hinst hy
theorem own_same {s : State} {args : Array Value} {D : String} {y z : MethodName} (hinst : (Cond.instanceMethod y).before args s = true) (hsel : (Cond.selects D z z).before args s = true) (hc : z.cls = y.cls) (hy : y.cls ≠ "java/lang/invoke/MethodHandle" ∧ y.cls ≠ "java/lang/invoke/VarHandle") : (Cond.sameMethod y.cls y.cls y.name y.desc).before args s = true := by
  obtain ⟨mk, methM, hnamed, hmethM, -, -⟩ := Cond.instanceMethod_spec hinst
  obtain ⟨c, r, m, q1, q2, q3, q4, k, hk, hi⟩ := Cond.selects_spec hsel
  have hfound := State.methodFound?_of_named hnamed hy
  have hcn := findClass_of_methodNamed hnamed
  have e : m.cls = mk.cls := Option.some.inj ((findClass_of_methodNamed q3).symm.trans (hc ▸ hcn))
  rw [e] at hk
  obtain ⟨yc, yn, yd⟩ := y
  simp_all [Cond.before, Cond.holds, Cond.value]
theorem own_nf {s : State} {args : Array Value} {D : String} {y z : MethodName} (hsel : (Cond.selects D z z).before args s = true) (hc : z.cls = y.cls) : NotFace s y := fun r0 h0 => by
  obtain ⟨c, r, m, q1, q2, q3, q4, k, hk, hi⟩ := Cond.selects_spec hsel
  have e : m.cls = r0.cls := Option.some.inj ((findClass_of_methodNamed q3).symm.trans (hc ▸ findClass_of_methodNamed h0))
  exact ⟨k, e ▸ hk, hi⟩
theorem own_lt {x y : Int64} : lcmpW x y < 0 ↔ x < y := by rw [lcW]; exact lc_lt x y
theorem own_gt {x y : Int64} : (0 : Int32) < lcmpW x y ↔ y < x := by rw [lcW]; exact lc_gt x y
theorem own_eq {x y : Int64} : lcmpW x y = 0 ↔ x = y := by rw [lcW]; exact lc_eq x y
theorem own_extK {Z : State} {h h' : Heap} {ws : List Addr} (O : Ext Z.heap h) (K : Keep h h' ws) (q : ∀ x ∈ ws, Z.heap.size ≤ x) : Ext Z.heap h' :=
  (Old.keep (n0 := Z.heap.size) ⟨rfl, O⟩ K q).2
theorem own_ext {h h1 h2 : Heap} (E : Ext h h1) (F : Ext h1 h2) : Ext h h2 := ⟨Nat.le_trans E.1 F.1, fun a c q => F.2 a c (E.2 a c q)⟩
theorem own_extW {Z : State} {h h' : Heap} {a : Addr} {sl : Nat} {v : Value} (O : Ext Z.heap h) (W : Wr h h' a sl v) (q : Z.heap.size ≤ a) : Ext Z.heap h' := own_extK O (Keep.of_wr W) (allS q all0)
theorem own_fldI {s : State} {args : Array Value} {t : Term} {C n d : String} {k : Int32} {a : Addr} (h : (Cond.eq (Term.field t C n d) (Term.int k)).value args s none s [] = some true) (ev : t.eval args s none [] s = some (.ref a)) : Fld s s.heap a C n d (.int k) := by
  obtain ⟨x, y, h1, h2, h3, -⟩ := cmp_v (Or.inl h)
  have h4 : s.fieldOf? a C n d = some x := (fld_at ev).symm.trans h1
  have h5 : y = .int k := (Option.some.inj (h2.symm.trans (Term.int_eval k)))
  subst h5
  cases x with
  | int z =>
    simp only [Cond.value, h1, h2] at h
    have e : z = k := by simpa using h
    subst e
    exact Fld.start h4
  | _ => simp [Kin, Value.isRef] at h3
theorem own_fldV {s : State} {args : Array Value} {t u : Term} {C n d : String} {b : Addr} {a : Addr} (h : (Cond.eq (Term.field t C n d) u).value args s none s [] = some true) (ev : t.eval args s none [] s = some (.ref a)) (eu : u.eval args s none [] s = some (.ref b)) : Fld s s.heap a C n d (.ref b) := by
  obtain ⟨x, y, h1, h2, h3, -⟩ := cmp_v (Or.inl h)
  have h4 : s.fieldOf? a C n d = some x := (fld_at ev).symm.trans h1
  have h5 : y = .ref b := (Option.some.inj (h2.symm.trans eu))
  subst h5
  cases x with
  | ref z =>
    simp only [Cond.value, h1, h2] at h
    have e : z = b := by simpa using h
    subst e
    exact Fld.start h4
  | null => simp [Cond.value, h1, h2] at h
  | _ => simp [Kin, Value.isRef] at h3
theorem own_elemI {s : State} {args : Array Value} {t : Term} {j k : Int32} {a : Addr} {cl : Cell} (h : (Cond.eq (Term.elem t (Term.int j)) (Term.int k)).value args s none s [] = some true) (ev : t.eval args s none [] s = some (.ref a)) (hc : s.heap[a]? = some cl) : ¬ (j < 0 ∨ cl.slots.size ≤ j.toNatClampNeg) ∧ cl.slots[j.toNatClampNeg]? = some (.int k) := by
  obtain ⟨x, y, h1, h2, h3, -⟩ := cmp_v (Or.inl h)
  have h4 := elem_in h1 ev (Term.int_eval j) hc
  have h5 : y = .int k := (Option.some.inj (h2.symm.trans (Term.int_eval k)))
  subst h5
  cases x with
  | int z =>
    simp only [Cond.value, h1, h2] at h
    have e : z = k := by simpa using h
    subst e
    exact h4
  | _ => simp [Kin, Value.isRef] at h3
theorem own_elemV {s : State} {args : Array Value} {t u : Term} {j : Int32} {a b : Addr} {cl : Cell} (h : (Cond.eq (Term.elem t (Term.int j)) u).value args s none s [] = some true) (ev : t.eval args s none [] s = some (.ref a)) (eu : u.eval args s none [] s = some (.ref b)) (hc : s.heap[a]? = some cl) : ¬ (j < 0 ∨ cl.slots.size ≤ j.toNatClampNeg) ∧ cl.slots[j.toNatClampNeg]? = some (.ref b) := by
  obtain ⟨x, y, h1, h2, h3, -⟩ := cmp_v (Or.inl h)
  have h4 := elem_in h1 ev (Term.int_eval j) hc
  have h5 : y = .ref b := (Option.some.inj (h2.symm.trans eu))
  subst h5
  cases x with
  | ref z =>
    simp only [Cond.value, h1, h2] at h
    have e : z = b := by simpa using h
    subst e
    exact h4
  | null => simp [Cond.value, h1, h2] at h
  | _ => simp [Kin, Value.isRef] at h3
theorem own_fldN {s : State} {args : Array Value} {t : Term} {C n d : String} {a : Addr} (h : (Cond.eq (Term.field t C n d) Term.null).value args s none s [] = some true) (ev : t.eval args s none [] s = some (.ref a)) : Fld s s.heap a C n d .null :=
  Fld.start ((fld_at ev).symm.trans (null_v h))
def own_W (Z : State) (a_INTEGER : Addr) (a_STRING : Addr) (a_TRUE : Addr) (a_FALSE : Addr) (a_NAME : Addr) (a_CALL : Addr) (a_OR : Addr) (a_AND : Addr) (a_NOT : Addr) (a_EQUAL : Addr) (a_NOT_EQUAL : Addr) (a_LESS : Addr) (a_LESS_EQUAL : Addr) (a_GREATER : Addr) (a_GREATER_EQUAL : Addr) (a_ADD : Addr) (a_SUBTRACT : Addr) (a_NEGATE : Addr) : Prop := (Sta Z Z.heap "com/example/conformal/conformal/Expression$Operator" "INTEGER" "Lcom/example/conformal/conformal/Expression$Operator;" (.ref a_INTEGER)) ∧ (Exa Z Z.heap a_INTEGER "com/example/conformal/conformal/Expression$Operator") ∧ (Sta Z Z.heap "com/example/conformal/conformal/Expression$Operator" "STRING" "Lcom/example/conformal/conformal/Expression$Operator;" (.ref a_STRING)) ∧ (Exa Z Z.heap a_STRING "com/example/conformal/conformal/Expression$Operator") ∧ (Sta Z Z.heap "com/example/conformal/conformal/Expression$Operator" "TRUE" "Lcom/example/conformal/conformal/Expression$Operator;" (.ref a_TRUE)) ∧ (Exa Z Z.heap a_TRUE "com/example/conformal/conformal/Expression$Operator") ∧ (Sta Z Z.heap "com/example/conformal/conformal/Expression$Operator" "FALSE" "Lcom/example/conformal/conformal/Expression$Operator;" (.ref a_FALSE)) ∧ (Exa Z Z.heap a_FALSE "com/example/conformal/conformal/Expression$Operator") ∧ (Sta Z Z.heap "com/example/conformal/conformal/Expression$Operator" "NAME" "Lcom/example/conformal/conformal/Expression$Operator;" (.ref a_NAME)) ∧ (Exa Z Z.heap a_NAME "com/example/conformal/conformal/Expression$Operator") ∧ (Sta Z Z.heap "com/example/conformal/conformal/Expression$Operator" "CALL" "Lcom/example/conformal/conformal/Expression$Operator;" (.ref a_CALL)) ∧ (Exa Z Z.heap a_CALL "com/example/conformal/conformal/Expression$Operator") ∧ (Sta Z Z.heap "com/example/conformal/conformal/Expression$Operator" "OR" "Lcom/example/conformal/conformal/Expression$Operator;" (.ref a_OR)) ∧ (Exa Z Z.heap a_OR "com/example/conformal/conformal/Expression$Operator") ∧ (Sta Z Z.heap "com/example/conformal/conformal/Expression$Operator" "AND" "Lcom/example/conformal/conformal/Expression$Operator;" (.ref a_AND)) ∧ (Exa Z Z.heap a_AND "com/example/conformal/conformal/Expression$Operator") ∧ (Sta Z Z.heap "com/example/conformal/conformal/Expression$Operator" "NOT" "Lcom/example/conformal/conformal/Expression$Operator;" (.ref a_NOT)) ∧ (Exa Z Z.heap a_NOT "com/example/conformal/conformal/Expression$Operator") ∧ (Sta Z Z.heap "com/example/conformal/conformal/Expression$Operator" "EQUAL" "Lcom/example/conformal/conformal/Expression$Operator;" (.ref a_EQUAL)) ∧ (Exa Z Z.heap a_EQUAL "com/example/conformal/conformal/Expression$Operator") ∧ (Sta Z Z.heap "com/example/conformal/conformal/Expression$Operator" "NOT_EQUAL" "Lcom/example/conformal/conformal/Expression$Operator;" (.ref a_NOT_EQUAL)) ∧ (Exa Z Z.heap a_NOT_EQUAL "com/example/conformal/conformal/Expression$Operator") ∧ (Sta Z Z.heap "com/example/conformal/conformal/Expression$Operator" "LESS" "Lcom/example/conformal/conformal/Expression$Operator;" (.ref a_LESS)) ∧ (Exa Z Z.heap a_LESS "com/example/conformal/conformal/Expression$Operator") ∧ (Sta Z Z.heap "com/example/conformal/conformal/Expression$Operator" "LESS_EQUAL" "Lcom/example/conformal/conformal/Expression$Operator;" (.ref a_LESS_EQUAL)) ∧ (Exa Z Z.heap a_LESS_EQUAL "com/example/conformal/conformal/Expression$Operator") ∧ (Sta Z Z.heap "com/example/conformal/conformal/Expression$Operator" "GREATER" "Lcom/example/conformal/conformal/Expression$Operator;" (.ref a_GREATER)) ∧ (Exa Z Z.heap a_GREATER "com/example/conformal/conformal/Expression$Operator") ∧ (Sta Z Z.heap "com/example/conformal/conformal/Expression$Operator" "GREATER_EQUAL" "Lcom/example/conformal/conformal/Expression$Operator;" (.ref a_GREATER_EQUAL)) ∧ (Exa Z Z.heap a_GREATER_EQUAL "com/example/conformal/conformal/Expression$Operator") ∧ (Sta Z Z.heap "com/example/conformal/conformal/Expression$Operator" "ADD" "Lcom/example/conformal/conformal/Expression$Operator;" (.ref a_ADD)) ∧ (Exa Z Z.heap a_ADD "com/example/conformal/conformal/Expression$Operator") ∧ (Sta Z Z.heap "com/example/conformal/conformal/Expression$Operator" "SUBTRACT" "Lcom/example/conformal/conformal/Expression$Operator;" (.ref a_SUBTRACT)) ∧ (Exa Z Z.heap a_SUBTRACT "com/example/conformal/conformal/Expression$Operator") ∧ (Sta Z Z.heap "com/example/conformal/conformal/Expression$Operator" "NEGATE" "Lcom/example/conformal/conformal/Expression$Operator;" (.ref a_NEGATE)) ∧ (Exa Z Z.heap a_NEGATE "com/example/conformal/conformal/Expression$Operator") ∧ (Fld Z Z.heap a_INTEGER "java/lang/Enum" "ordinal" "I" (.int (0 : Int32))) ∧ (Fld Z Z.heap a_EQUAL "java/lang/Enum" "ordinal" "I" (.int (9 : Int32))) ∧ (Fld Z Z.heap a_NOT_EQUAL "java/lang/Enum" "ordinal" "I" (.int (10 : Int32))) ∧ (Fld Z Z.heap a_LESS "java/lang/Enum" "ordinal" "I" (.int (11 : Int32))) ∧ (Fld Z Z.heap a_LESS_EQUAL "java/lang/Enum" "ordinal" "I" (.int (12 : Int32))) ∧ (Fld Z Z.heap a_GREATER "java/lang/Enum" "ordinal" "I" (.int (13 : Int32))) ∧ (Fld Z Z.heap a_GREATER_EQUAL "java/lang/Enum" "ordinal" "I" (.int (14 : Int32))) ∧ (Fld Z Z.heap a_INTEGER "com/example/conformal/conformal/Expression$Operator" "precedence" "I" (.int (0 : Int32))) ∧ (Fld Z Z.heap a_EQUAL "com/example/conformal/conformal/Expression$Operator" "precedence" "I" (.int (4 : Int32))) ∧ (Fld Z Z.heap a_FALSE "java/lang/Enum" "ordinal" "I" (.int (3 : Int32))) ∧ (Fld Z Z.heap a_FALSE "com/example/conformal/conformal/Expression$Operator" "precedence" "I" (.int (0 : Int32))) ∧ (Fld Z Z.heap a_TRUE "java/lang/Enum" "ordinal" "I" (.int (2 : Int32))) ∧ (Fld Z Z.heap a_TRUE "com/example/conformal/conformal/Expression$Operator" "precedence" "I" (.int (0 : Int32))) ∧ (Fld Z Z.heap a_STRING "java/lang/Enum" "ordinal" "I" (.int (1 : Int32))) ∧ (Fld Z Z.heap a_STRING "com/example/conformal/conformal/Expression$Operator" "precedence" "I" (.int (0 : Int32))) ∧ (Fld Z Z.heap a_AND "java/lang/Enum" "ordinal" "I" (.int (7 : Int32))) ∧ (Fld Z Z.heap a_AND "com/example/conformal/conformal/Expression$Operator" "precedence" "I" (.int (2 : Int32))) ∧ (Fld Z Z.heap a_LESS "com/example/conformal/conformal/Expression$Operator" "precedence" "I" (.int (4 : Int32))) ∧ (Fld Z Z.heap a_NAME "java/lang/Enum" "ordinal" "I" (.int (4 : Int32))) ∧ (Fld Z Z.heap a_NAME "com/example/conformal/conformal/Expression$Operator" "precedence" "I" (.int (0 : Int32))) ∧ (Fld Z Z.heap a_NOT "java/lang/Enum" "ordinal" "I" (.int (8 : Int32))) ∧ (Fld Z Z.heap a_NOT "com/example/conformal/conformal/Expression$Operator" "precedence" "I" (.int (3 : Int32))) ∧ (Fld Z Z.heap a_LESS_EQUAL "com/example/conformal/conformal/Expression$Operator" "precedence" "I" (.int (4 : Int32))) ∧ (Fld Z Z.heap a_SUBTRACT "java/lang/Enum" "ordinal" "I" (.int (16 : Int32))) ∧ (Fld Z Z.heap a_SUBTRACT "com/example/conformal/conformal/Expression$Operator" "precedence" "I" (.int (5 : Int32))) ∧ (Fld Z Z.heap a_ADD "java/lang/Enum" "ordinal" "I" (.int (15 : Int32))) ∧ (Fld Z Z.heap a_ADD "com/example/conformal/conformal/Expression$Operator" "precedence" "I" (.int (5 : Int32))) ∧ (Fld Z Z.heap a_NOT_EQUAL "com/example/conformal/conformal/Expression$Operator" "precedence" "I" (.int (4 : Int32))) ∧ (Fld Z Z.heap a_GREATER "com/example/conformal/conformal/Expression$Operator" "precedence" "I" (.int (4 : Int32))) ∧ (Fld Z Z.heap a_OR "java/lang/Enum" "ordinal" "I" (.int (6 : Int32))) ∧ (Fld Z Z.heap a_OR "com/example/conformal/conformal/Expression$Operator" "precedence" "I" (.int (1 : Int32))) ∧ (Fld Z Z.heap a_NEGATE "java/lang/Enum" "ordinal" "I" (.int (17 : Int32))) ∧ (Fld Z Z.heap a_NEGATE "com/example/conformal/conformal/Expression$Operator" "precedence" "I" (.int (6 : Int32))) ∧ (Fld Z Z.heap a_GREATER_EQUAL "com/example/conformal/conformal/Expression$Operator" "precedence" "I" (.int (4 : Int32))) ∧ (Fld Z Z.heap a_CALL "java/lang/Enum" "ordinal" "I" (.int (5 : Int32))) ∧ (Fld Z Z.heap a_CALL "com/example/conformal/conformal/Expression$Operator" "precedence" "I" (.int (0 : Int32)))
theorem own_case {i : Int32} {k : Int} (c : Int32) (h : i.toInt = k) (hc : c.toInt = k) : i = c := Int32.toInt_inj.mp (h.trans hc.symm)
theorem own_mask (x : Int32) : 0 ≤ (x &&& 2147483647).toInt := by
  have e := Jvm.Kit.i32_mask x 2147483647 (k := 31) (by decide) (by decide)
  omega
theorem own_mod (x n : Int32) (hn : 0 < n.toInt) : 0 ≤ ((x &&& 2147483647) % n).toInt ∧ ((x &&& 2147483647) % n).toInt < n.toInt := by
  rw [Jvm.Kit.i32_rem_nonneg (own_mask x)]
  exact ⟨Int.emod_nonneg _ (by omega), Int.emod_lt_of_pos _ hn⟩
theorem own_and3 (x : Int32) : (x &&& 3) = 0 ∨ (x &&& 3) = 1 ∨ (x &&& 3) = 2 ∨ (x &&& 3) = 3 := by
  have e := Jvm.Kit.i32_mask x 3 (k := 2) (by decide) (by decide)
  rcases (by omega : (x &&& 3).toInt = 0 ∨ (x &&& 3).toInt = 1 ∨ (x &&& 3).toInt = 2 ∨ (x &&& 3).toInt = 3) with q | q | q | q
  · exact Or.inl (own_case 0 q (by decide))
  · exact Or.inr (Or.inl (own_case 1 q (by decide)))
  · exact Or.inr (Or.inr (Or.inl (own_case 2 q (by decide))))
  · exact Or.inr (Or.inr (Or.inr (own_case 3 q (by decide))))
def own_pick (i : Int32) (a_INTEGER : Addr) (a_STRING : Addr) (a_TRUE : Addr) (a_FALSE : Addr) (a_NAME : Addr) (a_CALL : Addr) (a_OR : Addr) (a_AND : Addr) (a_NOT : Addr) (a_EQUAL : Addr) (a_NOT_EQUAL : Addr) (a_LESS : Addr) (a_LESS_EQUAL : Addr) (a_GREATER : Addr) (a_GREATER_EQUAL : Addr) (a_ADD : Addr) (a_SUBTRACT : Addr) (a_NEGATE : Addr) : Addr := if i = 0 then a_INTEGER else if i = 1 then a_STRING else if i = 2 then a_TRUE else if i = 3 then a_FALSE else if i = 4 then a_NAME else if i = 5 then a_CALL else if i = 6 then a_OR else if i = 7 then a_AND else if i = 8 then a_NOT else if i = 9 then a_EQUAL else if i = 10 then a_NOT_EQUAL else if i = 11 then a_LESS else if i = 12 then a_LESS_EQUAL else if i = 13 then a_GREATER else if i = 14 then a_GREATER_EQUAL else if i = 15 then a_ADD else if i = 16 then a_SUBTRACT else a_NEGATE
def own_prec (i : Int32) : Int32 := if i = 0 then 0 else if i = 1 then 0 else if i = 2 then 0 else if i = 3 then 0 else if i = 4 then 0 else if i = 5 then 0 else if i = 6 then 1 else if i = 7 then 2 else if i = 8 then 3 else if i = 9 then 4 else if i = 10 then 4 else if i = 11 then 4 else if i = 12 then 4 else if i = 13 then 4 else if i = 14 then 4 else if i = 15 then 5 else if i = 16 then 5 else 6
theorem own_pick_exa {Z : State} {a_INTEGER : Addr} {a_STRING : Addr} {a_TRUE : Addr} {a_FALSE : Addr} {a_NAME : Addr} {a_CALL : Addr} {a_OR : Addr} {a_AND : Addr} {a_NOT : Addr} {a_EQUAL : Addr} {a_NOT_EQUAL : Addr} {a_LESS : Addr} {a_LESS_EQUAL : Addr} {a_GREATER : Addr} {a_GREATER_EQUAL : Addr} {a_ADD : Addr} {a_SUBTRACT : Addr} {a_NEGATE : Addr} (i : Int32) (w : own_W Z a_INTEGER a_STRING a_TRUE a_FALSE a_NAME a_CALL a_OR a_AND a_NOT a_EQUAL a_NOT_EQUAL a_LESS a_LESS_EQUAL a_GREATER a_GREATER_EQUAL a_ADD a_SUBTRACT a_NEGATE) : Exa Z Z.heap (own_pick i a_INTEGER a_STRING a_TRUE a_FALSE a_NAME a_CALL a_OR a_AND a_NOT a_EQUAL a_NOT_EQUAL a_LESS a_LESS_EQUAL a_GREATER a_GREATER_EQUAL a_ADD a_SUBTRACT a_NEGATE) "com/example/conformal/conformal/Expression$Operator" := by
  obtain ⟨S_INTEGER, X_INTEGER, S_STRING, X_STRING, S_TRUE, X_TRUE, S_FALSE, X_FALSE, S_NAME, X_NAME, S_CALL, X_CALL, S_OR, X_OR, S_AND, X_AND, S_NOT, X_NOT, S_EQUAL, X_EQUAL, S_NOT_EQUAL, X_NOT_EQUAL, S_LESS, X_LESS, S_LESS_EQUAL, X_LESS_EQUAL, S_GREATER, X_GREATER, S_GREATER_EQUAL, X_GREATER_EQUAL, S_ADD, X_ADD, S_SUBTRACT, X_SUBTRACT, S_NEGATE, X_NEGATE, F_INTEGER_ordinal, F_EQUAL_ordinal, F_NOT_EQUAL_ordinal, F_LESS_ordinal, F_LESS_EQUAL_ordinal, F_GREATER_ordinal, F_GREATER_EQUAL_ordinal, F_INTEGER_precedence, F_EQUAL_precedence, F_FALSE_ordinal, F_FALSE_precedence, F_TRUE_ordinal, F_TRUE_precedence, F_STRING_ordinal, F_STRING_precedence, F_AND_ordinal, F_AND_precedence, F_LESS_precedence, F_NAME_ordinal, F_NAME_precedence, F_NOT_ordinal, F_NOT_precedence, F_LESS_EQUAL_precedence, F_SUBTRACT_ordinal, F_SUBTRACT_precedence, F_ADD_ordinal, F_ADD_precedence, F_NOT_EQUAL_precedence, F_GREATER_precedence, F_OR_ordinal, F_OR_precedence, F_NEGATE_ordinal, F_NEGATE_precedence, F_GREATER_EQUAL_precedence, F_CALL_ordinal, F_CALL_precedence⟩ := w
  unfold own_pick
  by_cases q0 : i = 0
  · rw [if_pos q0]; exact X_INTEGER
  rw [if_neg q0]
  by_cases q1 : i = 1
  · rw [if_pos q1]; exact X_STRING
  rw [if_neg q1]
  by_cases q2 : i = 2
  · rw [if_pos q2]; exact X_TRUE
  rw [if_neg q2]
  by_cases q3 : i = 3
  · rw [if_pos q3]; exact X_FALSE
  rw [if_neg q3]
  by_cases q4 : i = 4
  · rw [if_pos q4]; exact X_NAME
  rw [if_neg q4]
  by_cases q5 : i = 5
  · rw [if_pos q5]; exact X_CALL
  rw [if_neg q5]
  by_cases q6 : i = 6
  · rw [if_pos q6]; exact X_OR
  rw [if_neg q6]
  by_cases q7 : i = 7
  · rw [if_pos q7]; exact X_AND
  rw [if_neg q7]
  by_cases q8 : i = 8
  · rw [if_pos q8]; exact X_NOT
  rw [if_neg q8]
  by_cases q9 : i = 9
  · rw [if_pos q9]; exact X_EQUAL
  rw [if_neg q9]
  by_cases q10 : i = 10
  · rw [if_pos q10]; exact X_NOT_EQUAL
  rw [if_neg q10]
  by_cases q11 : i = 11
  · rw [if_pos q11]; exact X_LESS
  rw [if_neg q11]
  by_cases q12 : i = 12
  · rw [if_pos q12]; exact X_LESS_EQUAL
  rw [if_neg q12]
  by_cases q13 : i = 13
  · rw [if_pos q13]; exact X_GREATER
  rw [if_neg q13]
  by_cases q14 : i = 14
  · rw [if_pos q14]; exact X_GREATER_EQUAL
  rw [if_neg q14]
  by_cases q15 : i = 15
  · rw [if_pos q15]; exact X_ADD
  rw [if_neg q15]
  by_cases q16 : i = 16
  · rw [if_pos q16]; exact X_SUBTRACT
  rw [if_neg q16]
  exact X_NEGATE
theorem own_pick_ord {Z : State} {a_INTEGER : Addr} {a_STRING : Addr} {a_TRUE : Addr} {a_FALSE : Addr} {a_NAME : Addr} {a_CALL : Addr} {a_OR : Addr} {a_AND : Addr} {a_NOT : Addr} {a_EQUAL : Addr} {a_NOT_EQUAL : Addr} {a_LESS : Addr} {a_LESS_EQUAL : Addr} {a_GREATER : Addr} {a_GREATER_EQUAL : Addr} {a_ADD : Addr} {a_SUBTRACT : Addr} {a_NEGATE : Addr} (i : Int32) (w : own_W Z a_INTEGER a_STRING a_TRUE a_FALSE a_NAME a_CALL a_OR a_AND a_NOT a_EQUAL a_NOT_EQUAL a_LESS a_LESS_EQUAL a_GREATER a_GREATER_EQUAL a_ADD a_SUBTRACT a_NEGATE) (h0 : 0 ≤ i.toInt) (h1 : i.toInt < 18) : Fld Z Z.heap (own_pick i a_INTEGER a_STRING a_TRUE a_FALSE a_NAME a_CALL a_OR a_AND a_NOT a_EQUAL a_NOT_EQUAL a_LESS a_LESS_EQUAL a_GREATER a_GREATER_EQUAL a_ADD a_SUBTRACT a_NEGATE) "java/lang/Enum" "ordinal" "I" (.int i) := by
  obtain ⟨S_INTEGER, X_INTEGER, S_STRING, X_STRING, S_TRUE, X_TRUE, S_FALSE, X_FALSE, S_NAME, X_NAME, S_CALL, X_CALL, S_OR, X_OR, S_AND, X_AND, S_NOT, X_NOT, S_EQUAL, X_EQUAL, S_NOT_EQUAL, X_NOT_EQUAL, S_LESS, X_LESS, S_LESS_EQUAL, X_LESS_EQUAL, S_GREATER, X_GREATER, S_GREATER_EQUAL, X_GREATER_EQUAL, S_ADD, X_ADD, S_SUBTRACT, X_SUBTRACT, S_NEGATE, X_NEGATE, F_INTEGER_ordinal, F_EQUAL_ordinal, F_NOT_EQUAL_ordinal, F_LESS_ordinal, F_LESS_EQUAL_ordinal, F_GREATER_ordinal, F_GREATER_EQUAL_ordinal, F_INTEGER_precedence, F_EQUAL_precedence, F_FALSE_ordinal, F_FALSE_precedence, F_TRUE_ordinal, F_TRUE_precedence, F_STRING_ordinal, F_STRING_precedence, F_AND_ordinal, F_AND_precedence, F_LESS_precedence, F_NAME_ordinal, F_NAME_precedence, F_NOT_ordinal, F_NOT_precedence, F_LESS_EQUAL_precedence, F_SUBTRACT_ordinal, F_SUBTRACT_precedence, F_ADD_ordinal, F_ADD_precedence, F_NOT_EQUAL_precedence, F_GREATER_precedence, F_OR_ordinal, F_OR_precedence, F_NEGATE_ordinal, F_NEGATE_precedence, F_GREATER_EQUAL_precedence, F_CALL_ordinal, F_CALL_precedence⟩ := w
  rcases (by omega : i.toInt = 0 ∨ i.toInt = 1 ∨ i.toInt = 2 ∨ i.toInt = 3 ∨ i.toInt = 4 ∨ i.toInt = 5 ∨ i.toInt = 6 ∨ i.toInt = 7 ∨ i.toInt = 8 ∨ i.toInt = 9 ∨ i.toInt = 10 ∨ i.toInt = 11 ∨ i.toInt = 12 ∨ i.toInt = 13 ∨ i.toInt = 14 ∨ i.toInt = 15 ∨ i.toInt = 16 ∨ i.toInt = 17) with q | q | q | q | q | q | q | q | q | q | q | q | q | q | q | q | q | q
  · obtain rfl := own_case 0 q (by decide)
    exact F_INTEGER_ordinal
  · obtain rfl := own_case 1 q (by decide)
    exact F_STRING_ordinal
  · obtain rfl := own_case 2 q (by decide)
    exact F_TRUE_ordinal
  · obtain rfl := own_case 3 q (by decide)
    exact F_FALSE_ordinal
  · obtain rfl := own_case 4 q (by decide)
    exact F_NAME_ordinal
  · obtain rfl := own_case 5 q (by decide)
    exact F_CALL_ordinal
  · obtain rfl := own_case 6 q (by decide)
    exact F_OR_ordinal
  · obtain rfl := own_case 7 q (by decide)
    exact F_AND_ordinal
  · obtain rfl := own_case 8 q (by decide)
    exact F_NOT_ordinal
  · obtain rfl := own_case 9 q (by decide)
    exact F_EQUAL_ordinal
  · obtain rfl := own_case 10 q (by decide)
    exact F_NOT_EQUAL_ordinal
  · obtain rfl := own_case 11 q (by decide)
    exact F_LESS_ordinal
  · obtain rfl := own_case 12 q (by decide)
    exact F_LESS_EQUAL_ordinal
  · obtain rfl := own_case 13 q (by decide)
    exact F_GREATER_ordinal
  · obtain rfl := own_case 14 q (by decide)
    exact F_GREATER_EQUAL_ordinal
  · obtain rfl := own_case 15 q (by decide)
    exact F_ADD_ordinal
  · obtain rfl := own_case 16 q (by decide)
    exact F_SUBTRACT_ordinal
  · obtain rfl := own_case 17 q (by decide)
    exact F_NEGATE_ordinal
theorem own_pick_prec {Z : State} {a_INTEGER : Addr} {a_STRING : Addr} {a_TRUE : Addr} {a_FALSE : Addr} {a_NAME : Addr} {a_CALL : Addr} {a_OR : Addr} {a_AND : Addr} {a_NOT : Addr} {a_EQUAL : Addr} {a_NOT_EQUAL : Addr} {a_LESS : Addr} {a_LESS_EQUAL : Addr} {a_GREATER : Addr} {a_GREATER_EQUAL : Addr} {a_ADD : Addr} {a_SUBTRACT : Addr} {a_NEGATE : Addr} (i : Int32) (w : own_W Z a_INTEGER a_STRING a_TRUE a_FALSE a_NAME a_CALL a_OR a_AND a_NOT a_EQUAL a_NOT_EQUAL a_LESS a_LESS_EQUAL a_GREATER a_GREATER_EQUAL a_ADD a_SUBTRACT a_NEGATE) (h0 : 0 ≤ i.toInt) (h1 : i.toInt < 18) : Fld Z Z.heap (own_pick i a_INTEGER a_STRING a_TRUE a_FALSE a_NAME a_CALL a_OR a_AND a_NOT a_EQUAL a_NOT_EQUAL a_LESS a_LESS_EQUAL a_GREATER a_GREATER_EQUAL a_ADD a_SUBTRACT a_NEGATE) "com/example/conformal/conformal/Expression$Operator" "precedence" "I" (.int (own_prec i)) := by
  obtain ⟨S_INTEGER, X_INTEGER, S_STRING, X_STRING, S_TRUE, X_TRUE, S_FALSE, X_FALSE, S_NAME, X_NAME, S_CALL, X_CALL, S_OR, X_OR, S_AND, X_AND, S_NOT, X_NOT, S_EQUAL, X_EQUAL, S_NOT_EQUAL, X_NOT_EQUAL, S_LESS, X_LESS, S_LESS_EQUAL, X_LESS_EQUAL, S_GREATER, X_GREATER, S_GREATER_EQUAL, X_GREATER_EQUAL, S_ADD, X_ADD, S_SUBTRACT, X_SUBTRACT, S_NEGATE, X_NEGATE, F_INTEGER_ordinal, F_EQUAL_ordinal, F_NOT_EQUAL_ordinal, F_LESS_ordinal, F_LESS_EQUAL_ordinal, F_GREATER_ordinal, F_GREATER_EQUAL_ordinal, F_INTEGER_precedence, F_EQUAL_precedence, F_FALSE_ordinal, F_FALSE_precedence, F_TRUE_ordinal, F_TRUE_precedence, F_STRING_ordinal, F_STRING_precedence, F_AND_ordinal, F_AND_precedence, F_LESS_precedence, F_NAME_ordinal, F_NAME_precedence, F_NOT_ordinal, F_NOT_precedence, F_LESS_EQUAL_precedence, F_SUBTRACT_ordinal, F_SUBTRACT_precedence, F_ADD_ordinal, F_ADD_precedence, F_NOT_EQUAL_precedence, F_GREATER_precedence, F_OR_ordinal, F_OR_precedence, F_NEGATE_ordinal, F_NEGATE_precedence, F_GREATER_EQUAL_precedence, F_CALL_ordinal, F_CALL_precedence⟩ := w
  rcases (by omega : i.toInt = 0 ∨ i.toInt = 1 ∨ i.toInt = 2 ∨ i.toInt = 3 ∨ i.toInt = 4 ∨ i.toInt = 5 ∨ i.toInt = 6 ∨ i.toInt = 7 ∨ i.toInt = 8 ∨ i.toInt = 9 ∨ i.toInt = 10 ∨ i.toInt = 11 ∨ i.toInt = 12 ∨ i.toInt = 13 ∨ i.toInt = 14 ∨ i.toInt = 15 ∨ i.toInt = 16 ∨ i.toInt = 17) with q | q | q | q | q | q | q | q | q | q | q | q | q | q | q | q | q | q
  · obtain rfl := own_case 0 q (by decide)
    exact F_INTEGER_precedence
  · obtain rfl := own_case 1 q (by decide)
    exact F_STRING_precedence
  · obtain rfl := own_case 2 q (by decide)
    exact F_TRUE_precedence
  · obtain rfl := own_case 3 q (by decide)
    exact F_FALSE_precedence
  · obtain rfl := own_case 4 q (by decide)
    exact F_NAME_precedence
  · obtain rfl := own_case 5 q (by decide)
    exact F_CALL_precedence
  · obtain rfl := own_case 6 q (by decide)
    exact F_OR_precedence
  · obtain rfl := own_case 7 q (by decide)
    exact F_AND_precedence
  · obtain rfl := own_case 8 q (by decide)
    exact F_NOT_precedence
  · obtain rfl := own_case 9 q (by decide)
    exact F_EQUAL_precedence
  · obtain rfl := own_case 10 q (by decide)
    exact F_NOT_EQUAL_precedence
  · obtain rfl := own_case 11 q (by decide)
    exact F_LESS_precedence
  · obtain rfl := own_case 12 q (by decide)
    exact F_LESS_EQUAL_precedence
  · obtain rfl := own_case 13 q (by decide)
    exact F_GREATER_precedence
  · obtain rfl := own_case 14 q (by decide)
    exact F_GREATER_EQUAL_precedence
  · obtain rfl := own_case 15 q (by decide)
    exact F_ADD_precedence
  · obtain rfl := own_case 16 q (by decide)
    exact F_SUBTRACT_precedence
  · obtain rfl := own_case 17 q (by decide)
    exact F_NEGATE_precedence
theorem own_list (a_INTEGER : Addr) (a_STRING : Addr) (a_TRUE : Addr) (a_FALSE : Addr) (a_NAME : Addr) (a_CALL : Addr) (a_OR : Addr) (a_AND : Addr) (a_NOT : Addr) (a_EQUAL : Addr) (a_NOT_EQUAL : Addr) (a_LESS : Addr) (a_LESS_EQUAL : Addr) (a_GREATER : Addr) (a_GREATER_EQUAL : Addr) (a_ADD : Addr) (a_SUBTRACT : Addr) (a_NEGATE : Addr) (i : Int32) (h0 : 0 ≤ i.toInt) (h1 : i.toInt < 18) : ([(.ref a_INTEGER), (.ref a_STRING), (.ref a_TRUE), (.ref a_FALSE), (.ref a_NAME), (.ref a_CALL), (.ref a_OR), (.ref a_AND), (.ref a_NOT), (.ref a_EQUAL), (.ref a_NOT_EQUAL), (.ref a_LESS), (.ref a_LESS_EQUAL), (.ref a_GREATER), (.ref a_GREATER_EQUAL), (.ref a_ADD), (.ref a_SUBTRACT), (.ref a_NEGATE)] : List Value).getD i.toNatClampNeg .null = .ref (own_pick i a_INTEGER a_STRING a_TRUE a_FALSE a_NAME a_CALL a_OR a_AND a_NOT a_EQUAL a_NOT_EQUAL a_LESS a_LESS_EQUAL a_GREATER a_GREATER_EQUAL a_ADD a_SUBTRACT a_NEGATE) := by
  rcases (by omega : i.toInt = 0 ∨ i.toInt = 1 ∨ i.toInt = 2 ∨ i.toInt = 3 ∨ i.toInt = 4 ∨ i.toInt = 5 ∨ i.toInt = 6 ∨ i.toInt = 7 ∨ i.toInt = 8 ∨ i.toInt = 9 ∨ i.toInt = 10 ∨ i.toInt = 11 ∨ i.toInt = 12 ∨ i.toInt = 13 ∨ i.toInt = 14 ∨ i.toInt = 15 ∨ i.toInt = 16 ∨ i.toInt = 17) with q | q | q | q | q | q | q | q | q | q | q | q | q | q | q | q | q | q
  · obtain rfl := own_case 0 q (by decide)
    rfl
  · obtain rfl := own_case 1 q (by decide)
    rfl
  · obtain rfl := own_case 2 q (by decide)
    rfl
  · obtain rfl := own_case 3 q (by decide)
    rfl
  · obtain rfl := own_case 4 q (by decide)
    rfl
  · obtain rfl := own_case 5 q (by decide)
    rfl
  · obtain rfl := own_case 6 q (by decide)
    rfl
  · obtain rfl := own_case 7 q (by decide)
    rfl
  · obtain rfl := own_case 8 q (by decide)
    rfl
  · obtain rfl := own_case 9 q (by decide)
    rfl
  · obtain rfl := own_case 10 q (by decide)
    rfl
  · obtain rfl := own_case 11 q (by decide)
    rfl
  · obtain rfl := own_case 12 q (by decide)
    rfl
  · obtain rfl := own_case 13 q (by decide)
    rfl
  · obtain rfl := own_case 14 q (by decide)
    rfl
  · obtain rfl := own_case 15 q (by decide)
    rfl
  · obtain rfl := own_case 16 q (by decide)
    rfl
  · obtain rfl := own_case 17 q (by decide)
    rfl
theorem own_four (i : Int32) (h0 : 0 ≤ i.toInt) (h1 : i.toInt < 18) (n9 : ¬ i = 9) (n10 : ¬ i = 10) (n11 : ¬ i = 11) (n12 : ¬ i = 12) (n13 : ¬ i = 13) (n14 : ¬ i = 14) : ¬ own_prec i = 4 := by
  rcases (by omega : i.toInt = 0 ∨ i.toInt = 1 ∨ i.toInt = 2 ∨ i.toInt = 3 ∨ i.toInt = 4 ∨ i.toInt = 5 ∨ i.toInt = 6 ∨ i.toInt = 7 ∨ i.toInt = 8 ∨ i.toInt = 9 ∨ i.toInt = 10 ∨ i.toInt = 11 ∨ i.toInt = 12 ∨ i.toInt = 13 ∨ i.toInt = 14 ∨ i.toInt = 15 ∨ i.toInt = 16 ∨ i.toInt = 17) with q | q | q | q | q | q | q | q | q | q | q | q | q | q | q | q | q | q
  · obtain rfl := own_case 0 q (by decide)
    first | decide | (exfalso; revert q; decide)
  · obtain rfl := own_case 1 q (by decide)
    first | decide | (exfalso; revert q; decide)
  · obtain rfl := own_case 2 q (by decide)
    first | decide | (exfalso; revert q; decide)
  · obtain rfl := own_case 3 q (by decide)
    first | decide | (exfalso; revert q; decide)
  · obtain rfl := own_case 4 q (by decide)
    first | decide | (exfalso; revert q; decide)
  · obtain rfl := own_case 5 q (by decide)
    first | decide | (exfalso; revert q; decide)
  · obtain rfl := own_case 6 q (by decide)
    first | decide | (exfalso; revert q; decide)
  · obtain rfl := own_case 7 q (by decide)
    first | decide | (exfalso; revert q; decide)
  · obtain rfl := own_case 8 q (by decide)
    first | decide | (exfalso; revert q; decide)
  · obtain rfl := own_case 9 q (by decide)
    first | decide | (exfalso; revert n9; decide)
  · obtain rfl := own_case 10 q (by decide)
    first | decide | (exfalso; revert n10; decide)
  · obtain rfl := own_case 11 q (by decide)
    first | decide | (exfalso; revert n11; decide)
  · obtain rfl := own_case 12 q (by decide)
    first | decide | (exfalso; revert n12; decide)
  · obtain rfl := own_case 13 q (by decide)
    first | decide | (exfalso; revert n13; decide)
  · obtain rfl := own_case 14 q (by decide)
    first | decide | (exfalso; revert n14; decide)
  · obtain rfl := own_case 15 q (by decide)
    first | decide | (exfalso; revert q; decide)
  · obtain rfl := own_case 16 q (by decide)
    first | decide | (exfalso; revert q; decide)
  · obtain rfl := own_case 17 q (by decide)
    first | decide | (exfalso; revert q; decide)
theorem own_pn0 : plainName "com/example/conformal/conformal/Expression$Operator" = true := by first | (simp [plainName, overriddenIn]; done) | decide +kernel
theorem own_ef_ic (m : MethodId) (a : Addr) : entryFrame m #[(.ref a)] 1 = mkF m 0 #[.val (.ref a)] [] := by first | (simp [entryFrame, mkF, argsToLocals, Value.category]; done) | rfl
theorem own_d_prog_16_method_7_0 : decode prog_16_method_7_code 0 = .ok (.aload_n 0, 1) := by decide +kernel
theorem own_d_prog_16_method_7_1 : decode prog_16_method_7_code 1 = .ok (.getfield 84, 3) := by decide +kernel
theorem own_d_prog_16_method_7_4 : decode prog_16_method_7_code 4 = .ok (.getstatic 31, 3) := by decide +kernel
theorem own_d_prog_16_method_7_7 : decode prog_16_method_7_code 7 = .ok (.getfield 84, 3) := by decide +kernel
theorem own_d_prog_16_method_7_10 : decode prog_16_method_7_code 10 = .ok (.if_icmp .ne 7, 3) := by decide +kernel
theorem own_d_prog_16_method_7_13 : decode prog_16_method_7_code 13 = .ok (.iconst 1, 1) := by decide +kernel
theorem own_d_prog_16_method_7_14 : decode prog_16_method_7_code 14 = .ok (.goto 4, 3) := by decide +kernel
theorem own_d_prog_16_method_7_18 : decode prog_16_method_7_code 18 = .ok (.ireturn, 1) := by decide +kernel
theorem own_d_prog_16_method_7_17 : decode prog_16_method_7_code 17 = .ok (.iconst 0, 1) := by decide +kernel
def Q_ic (Z : State) (a : Addr) (n : Int32) (a_INTEGER : Addr) (a_STRING : Addr) (a_TRUE : Addr) (a_FALSE : Addr) (a_NAME : Addr) (a_CALL : Addr) (a_OR : Addr) (a_AND : Addr) (a_NOT : Addr) (a_EQUAL : Addr) (a_NOT_EQUAL : Addr) (a_LESS : Addr) (a_LESS_EQUAL : Addr) (a_GREATER : Addr) (a_GREATER_EQUAL : Addr) (a_ADD : Addr) (a_SUBTRACT : Addr) (a_NEGATE : Addr) (h0 : Heap) (v_ : Option Value) (h : Heap) (L_ : List Loc) : Prop := v_ = some (.int (if n = 4 then 1 else 0)) ∧ Fr Z.heap.size L_ ∧ (h = h0)
set_option maxRecDepth 65536 in
set_option maxHeartbeats 40000000 in
theorem rm_ic (l : Launch) (Z : State) (a0 : Array Value) (hw : ∀ d ∈ tables_1, d.before a0 Z = true) (ws : List Jvm.Cond) (a : Addr) (n : Int32) (a_INTEGER : Addr) (a_STRING : Addr) (a_TRUE : Addr) (a_FALSE : Addr) (a_NAME : Addr) (a_CALL : Addr) (a_OR : Addr) (a_AND : Addr) (a_NOT : Addr) (a_EQUAL : Addr) (a_NOT_EQUAL : Addr) (a_LESS : Addr) (a_LESS_EQUAL : Addr) (a_GREATER : Addr) (a_GREATER_EQUAL : Addr) (a_ADD : Addr) (a_SUBTRACT : Addr) (a_NEGATE : Addr) (h0 : Heap) (O : Ext Z.heap h0) (w : own_W Z a_INTEGER a_STRING a_TRUE a_FALSE a_NAME a_CALL a_OR a_AND a_NOT a_EQUAL a_NOT_EQUAL a_LESS a_LESS_EQUAL a_GREATER a_GREATER_EQUAL a_ADD a_SUBTRACT a_NEGATE) (F : Fld Z Z.heap a "com/example/conformal/conformal/Expression$Operator" "precedence" "I" (.int n)) :
    MetFree l (⟨"com/example/conformal/conformal/Expression$Operator", "isComparison", "()Z"⟩ : MethodName) (head1 (Jvm.Cond.code (⟨"com/example/conformal/conformal/Expression$Operator", "isComparison", "()Z"⟩ : MethodName) prog_16_method_7_code 1 (some .boolean) :: ws) ({ frames := 0, cells := 0, slots := 0, locals := 0 } : Room)) (fun a_ U_ => a_ = #[(.ref a)] ∧ Z.Warmed39 U_.vm ∧ U_.heap = h0) (fun _ _ _ _ _ => True) (fun _ U_ o_ U2_ => ∃ v_ L_, o_ = .returned v_ ∧ Q_ic Z a n a_INTEGER a_STRING a_TRUE a_FALSE a_NAME a_CALL a_OR a_AND a_NOT a_EQUAL a_NOT_EQUAL a_LESS a_LESS_EQUAL a_GREATER a_GREATER_EQUAL a_ADD a_SUBTRACT a_NEGATE h0 v_ U2_.heap L_ ∧ FrameEnd U_ o_ U2_ L_ ({ frames := 0, cells := 0, slots := 0, locals := 0 } : Room).cells ({ frames := 0, cells := 0, slots := 0, locals := 0 } : Room).slots) := by
  refine MetFree.of_bodySF (plainFor_of_name own_pn0) hisR ?_
  intro p e s m args below meth c s₁ Bd hml0 hP hK
  obtain ⟨rfl, hZ, hh⟩ := hP
  have hx := Bd.exec
  have hby := Bd.bytes
  have hml : c.maxLocals = 1 := hml0
  have hown : s.vm.findClass "com/example/conformal/conformal/Expression$Operator" = some m.cls := findClass_of_methodNamed Bd.named
  have hnm := (name_of_methodNamed Bd.named Bd.method).1
  have X0 : Stand p l e ({ frames := 0, cells := 0, slots := 0, locals := 0 } : Room) s m #[(.ref a)] below meth c s₁ [] 0 0 := Stand.of_body Bd
  have e0 : s₁.heap = h0 := by rw [← hh, Bd.state]; rfl
  have N0 := Fr.nil Z.heap.size
  show own_G p e below (fun o_ s₂ => ∃ v_ L_, o_ = .returned v_ ∧ Q_ic Z a n a_INTEGER a_STRING a_TRUE a_FALSE a_NAME a_CALL a_OR a_AND a_NOT a_EQUAL a_NOT_EQUAL a_LESS a_LESS_EQUAL a_GREATER a_GREATER_EQUAL a_ADD a_SUBTRACT a_NEGATE h0 v_ s₂.heap L_ ∧ FrameEnd s o_ s₂ L_ ({ frames := 0, cells := 0, slots := 0, locals := 0 } : Room).cells ({ frames := 0, cells := 0, slots := 0, locals := 0 } : Room).slots) (s₁.setTop (entryFrame m #[(.ref a)] 1))
  refine own_go (s₁.setTop (mkF m 0 #[.val (.ref a)] [])) (fun t_ k_ => castTop (own_ef_ic m a) k_) ?_
  have w' := w
  obtain ⟨S_INTEGER, X_INTEGER, S_STRING, X_STRING, S_TRUE, X_TRUE, S_FALSE, X_FALSE, S_NAME, X_NAME, S_CALL, X_CALL, S_OR, X_OR, S_AND, X_AND, S_NOT, X_NOT, S_EQUAL, X_EQUAL, S_NOT_EQUAL, X_NOT_EQUAL, S_LESS, X_LESS, S_LESS_EQUAL, X_LESS_EQUAL, S_GREATER, X_GREATER, S_GREATER_EQUAL, X_GREATER_EQUAL, S_ADD, X_ADD, S_SUBTRACT, X_SUBTRACT, S_NEGATE, X_NEGATE, F_INTEGER_ordinal, F_EQUAL_ordinal, F_NOT_EQUAL_ordinal, F_LESS_ordinal, F_LESS_EQUAL_ordinal, F_GREATER_ordinal, F_GREATER_EQUAL_ordinal, F_INTEGER_precedence, F_EQUAL_precedence, F_FALSE_ordinal, F_FALSE_precedence, F_TRUE_ordinal, F_TRUE_precedence, F_STRING_ordinal, F_STRING_precedence, F_AND_ordinal, F_AND_precedence, F_LESS_precedence, F_NAME_ordinal, F_NAME_precedence, F_NOT_ordinal, F_NOT_precedence, F_LESS_EQUAL_precedence, F_SUBTRACT_ordinal, F_SUBTRACT_precedence, F_ADD_ordinal, F_ADD_precedence, F_NOT_EQUAL_precedence, F_GREATER_precedence, F_OR_ordinal, F_OR_precedence, F_NEGATE_ordinal, F_NEGATE_precedence, F_GREATER_EQUAL_precedence, F_CALL_ordinal, F_CALL_precedence⟩ := w'
  refine own_go (s₁.setTop (mkF m 1 #[.val (.ref a)] [(.ref a)])) (fun t_ k_ => XS.aloadN X0.here hx rfl (hb hby own_d_prog_16_method_7_0) rfl rfl k_) ?_
  obtain ⟨T1, X1, e1, st1⟩ := getF X0 hx hZ hown (host := "") (Or.inl (hw _ (List.mem_of_getElem? (i := 46) rfl))) Via.refl e0 (F.ext O) (g := (mkF m 1 #[.val (.ref a)] [(.ref a)])) rfl rfl (hb hby own_d_prog_16_method_7_1)
  refine own_go (T1.setTop (mkF m 4 #[.val (.ref a)] [(.int n)])) (fun t_ k_ => st1 _ k_) ?_
  obtain ⟨T2, X2, e2, st2⟩ := getS2 X1 hx hZ hown (host := "") (Or.inl (hw _ (List.mem_of_getElem? (i := 48) rfl))) Via.refl e1 (S_EQUAL.ext O) (g := (mkF m 4 #[.val (.ref a)] [(.int n)])) rfl (hb hby own_d_prog_16_method_7_4)
  refine own_go (T2.setTop (mkF m 7 #[.val (.ref a)] [(.ref a_EQUAL), (.int n)])) (fun t_ k_ => st2 _ k_) ?_
  obtain ⟨T3, X3, e3, st3⟩ := getF X2 hx hZ hown (host := "") (Or.inl (hw _ (List.mem_of_getElem? (i := 46) rfl))) Via.refl e2 (F_EQUAL_precedence.ext O) (g := (mkF m 7 #[.val (.ref a)] [(.ref a_EQUAL), (.int n)])) rfl rfl (hb hby own_d_prog_16_method_7_7)
  refine own_go (T3.setTop (mkF m 10 #[.val (.ref a)] [(.int (4 : Int32)), (.int n)])) (fun t_ k_ => st3 _ k_) ?_
  by_cases hc10_4 : n = (4 : Int32)
  ·
    refine own_go (T3.setTop (mkF m 13 #[.val (.ref a)] [])) (fun t_ k_ => XS.icmpNo X3.here hx rfl (hb hby own_d_prog_16_method_7_10) rfl (teq hc10_4).2 k_) ?_
    refine own_go (T3.setTop (mkF m 14 #[.val (.ref a)] [(.int (1 : Int32))])) (fun t_ k_ => XS.iconst X3.here hx rfl (hb hby own_d_prog_16_method_7_13) k_) ?_
    refine own_go (T3.setTop (mkF m 18 #[.val (.ref a)] [(.int (1 : Int32))])) (fun t_ k_ => XS.goto X3.here hx rfl (pc0 := 14) (pc' := 18) rfl (hb hby own_d_prog_16_method_7_14) (by decide) (by decide) k_) ?_
    obtain ⟨fs, hr, hrun, hended, hW, hsame⟩ := X3.leave (v := some (.int (nar .boolean (1 : Int32)))) (fun h => by rw [Bd.returns] at h; cases h)
    refine ⟨_, _, retN X3 hx (t := .boolean) Bd.returns (by simp) (hb hby own_d_prog_16_method_7_18) hr, hrun, hended, _, _, rfl, ?_, ⟨_, rfl⟩, hW, hsame.mono (by decide) (by decide)⟩
    show Q_ic Z a n a_INTEGER a_STRING a_TRUE a_FALSE a_NAME a_CALL a_OR a_AND a_NOT a_EQUAL a_NOT_EQUAL a_LESS a_LESS_EQUAL a_GREATER a_GREATER_EQUAL a_ADD a_SUBTRACT a_NEGATE h0 _ T3.heap _
    exact ⟨by first | (simp [hc10_4]; done) | (simp [hc10_4]; rfl), N0, e3⟩
  ·
    refine own_go (T3.setTop (mkF m 17 #[.val (.ref a)] [])) (fun t_ k_ => XS.icmpYes X3.here hx rfl (pc0 := 10) (pc' := 17) rfl (hb hby own_d_prog_16_method_7_10) rfl (feq hc10_4).2 (by decide) (by decide) k_) ?_
    refine own_go (T3.setTop (mkF m 18 #[.val (.ref a)] [(.int (0 : Int32))])) (fun t_ k_ => XS.iconst X3.here hx rfl (hb hby own_d_prog_16_method_7_17) k_) ?_
    obtain ⟨fs, hr, hrun, hended, hW, hsame⟩ := X3.leave (v := some (.int (nar .boolean (0 : Int32)))) (fun h => by rw [Bd.returns] at h; cases h)
    refine ⟨_, _, retN X3 hx (t := .boolean) Bd.returns (by simp) (hb hby own_d_prog_16_method_7_18) hr, hrun, hended, _, _, rfl, ?_, ⟨_, rfl⟩, hW, hsame.mono (by decide) (by decide)⟩
    show Q_ic Z a n a_INTEGER a_STRING a_TRUE a_FALSE a_NAME a_CALL a_OR a_AND a_NOT a_EQUAL a_NOT_EQUAL a_LESS a_LESS_EQUAL a_GREATER a_GREATER_EQUAL a_ADD a_SUBTRACT a_NEGATE h0 _ T3.heap _
    exact ⟨by first | (simp [hc10_4]; done) | (simp [hc10_4]; rfl), N0, e3⟩
theorem own_pn1 : plainName "com/example/conformal/conformal/OperatorIsComparisonPinLaw" = true := by first | (simp [plainName, overriddenIn]; done) | decide +kernel
theorem own_ef_law (m : MethodId) (p0 : Int32) : entryFrame m #[(.int p0)] maxLocals = mkF m 0 #[.val (.int p0), .unset, .unset, .unset] [] := by first | (simp [entryFrame, mkF, argsToLocals, Value.category, maxLocals]; done) | rfl
theorem own_pd0 : parseMethodDescriptor "()Z" = some ⟨[], some .boolean⟩ := by decide +kernel
def Q_law (Z : State) (p0 : Int32) (a_INTEGER : Addr) (a_STRING : Addr) (a_TRUE : Addr) (a_FALSE : Addr) (a_NAME : Addr) (a_CALL : Addr) (a_OR : Addr) (a_AND : Addr) (a_NOT : Addr) (a_EQUAL : Addr) (a_NOT_EQUAL : Addr) (a_LESS : Addr) (a_LESS_EQUAL : Addr) (a_GREATER : Addr) (a_GREATER_EQUAL : Addr) (a_ADD : Addr) (a_SUBTRACT : Addr) (a_NEGATE : Addr) (h0 : Heap) (v_ : Option Value) (h : Heap) (L_ : List Loc) : Prop := v_ = some (.int 1) ∧ Fr Z.heap.size L_ ∧ (True)
set_option maxRecDepth 65536 in
set_option maxHeartbeats 40000000 in
theorem rm_law (l : Launch) (Z : State) (a0 : Array Value) (hw : ∀ d ∈ tables_1, d.before a0 Z = true) (ws : List Jvm.Cond) (p0 : Int32) (a_INTEGER : Addr) (a_STRING : Addr) (a_TRUE : Addr) (a_FALSE : Addr) (a_NAME : Addr) (a_CALL : Addr) (a_OR : Addr) (a_AND : Addr) (a_NOT : Addr) (a_EQUAL : Addr) (a_NOT_EQUAL : Addr) (a_LESS : Addr) (a_LESS_EQUAL : Addr) (a_GREATER : Addr) (a_GREATER_EQUAL : Addr) (a_ADD : Addr) (a_SUBTRACT : Addr) (a_NEGATE : Addr) (h0 : Heap) (O : Ext Z.heap h0) (w : own_W Z a_INTEGER a_STRING a_TRUE a_FALSE a_NAME a_CALL a_OR a_AND a_NOT a_EQUAL a_NOT_EQUAL a_LESS a_LESS_EQUAL a_GREATER a_GREATER_EQUAL a_ADD a_SUBTRACT a_NEGATE) :
    MetFree l x (head1 (Jvm.Cond.code x code maxLocals ret :: ws) room_1) (fun a_ U_ => a_ = #[(.int p0)] ∧ Z.Warmed39 U_.vm ∧ U_.heap = h0) (fun _ _ _ _ _ => True) (fun _ U_ o_ U2_ => ∃ v_ L_, o_ = .returned v_ ∧ Q_law Z p0 a_INTEGER a_STRING a_TRUE a_FALSE a_NAME a_CALL a_OR a_AND a_NOT a_EQUAL a_NOT_EQUAL a_LESS a_LESS_EQUAL a_GREATER a_GREATER_EQUAL a_ADD a_SUBTRACT a_NEGATE h0 v_ U2_.heap L_ ∧ FrameEnd U_ o_ U2_ L_ room_1.cells room_1.slots) := by
  refine MetFree.of_bodySF (plainFor_of_name own_pn1) hisR ?_
  intro p e s m args below meth c s₁ Bd hml0 hP hK
  obtain ⟨rfl, hZ, hh⟩ := hP
  have hx := Bd.exec
  have hby := Bd.bytes
  have hml : c.maxLocals = 4 := hml0
  have hown : s.vm.findClass "com/example/conformal/conformal/OperatorIsComparisonPinLaw" = some m.cls := findClass_of_methodNamed Bd.named
  have hnm := (name_of_methodNamed Bd.named Bd.method).1
  have X0 : Stand p l e room_1 s m #[(.int p0)] below meth c s₁ [] 0 0 := Stand.of_body Bd
  have e0 : s₁.heap = h0 := by rw [← hh, Bd.state]; rfl
  have N0 := Fr.nil Z.heap.size
  show own_G p e below (fun o_ s₂ => ∃ v_ L_, o_ = .returned v_ ∧ Q_law Z p0 a_INTEGER a_STRING a_TRUE a_FALSE a_NAME a_CALL a_OR a_AND a_NOT a_EQUAL a_NOT_EQUAL a_LESS a_LESS_EQUAL a_GREATER a_GREATER_EQUAL a_ADD a_SUBTRACT a_NEGATE h0 v_ s₂.heap L_ ∧ FrameEnd s o_ s₂ L_ room_1.cells room_1.slots) (s₁.setTop (entryFrame m #[(.int p0)] maxLocals))
  refine own_go (s₁.setTop (mkF m 0 #[.val (.int p0), .unset, .unset, .unset] [])) (fun t_ k_ => castTop (own_ef_law m p0) k_) ?_
  have w' := w
  obtain ⟨S_INTEGER, X_INTEGER, S_STRING, X_STRING, S_TRUE, X_TRUE, S_FALSE, X_FALSE, S_NAME, X_NAME, S_CALL, X_CALL, S_OR, X_OR, S_AND, X_AND, S_NOT, X_NOT, S_EQUAL, X_EQUAL, S_NOT_EQUAL, X_NOT_EQUAL, S_LESS, X_LESS, S_LESS_EQUAL, X_LESS_EQUAL, S_GREATER, X_GREATER, S_GREATER_EQUAL, X_GREATER_EQUAL, S_ADD, X_ADD, S_SUBTRACT, X_SUBTRACT, S_NEGATE, X_NEGATE, F_INTEGER_ordinal, F_EQUAL_ordinal, F_NOT_EQUAL_ordinal, F_LESS_ordinal, F_LESS_EQUAL_ordinal, F_GREATER_ordinal, F_GREATER_EQUAL_ordinal, F_INTEGER_precedence, F_EQUAL_precedence, F_FALSE_ordinal, F_FALSE_precedence, F_TRUE_ordinal, F_TRUE_precedence, F_STRING_ordinal, F_STRING_precedence, F_AND_ordinal, F_AND_precedence, F_LESS_precedence, F_NAME_ordinal, F_NAME_precedence, F_NOT_ordinal, F_NOT_precedence, F_LESS_EQUAL_precedence, F_SUBTRACT_ordinal, F_SUBTRACT_precedence, F_ADD_ordinal, F_ADD_precedence, F_NOT_EQUAL_precedence, F_GREATER_precedence, F_OR_ordinal, F_OR_precedence, F_NEGATE_ordinal, F_NEGATE_precedence, F_GREATER_EQUAL_precedence, F_CALL_ordinal, F_CALL_precedence⟩ := w'
  refine own_go (s₁.setTop (mkF m 2 #[.val (.int p0), .unset, .unset, .unset] [(.int (18 : Int32))])) (fun t_ k_ => XS.bipush X0.here hx rfl (hb hby at_0) k_) ?_
  obtain ⟨T1, h1, k1, X1, e1, E1, A1, Ov1, st1⟩ := newR X0 hx hZ hown (hw _ (List.mem_of_getElem? (i := 0) rfl)) (hw _ (List.mem_of_getElem? (i := 1) rfl)) e0 (g := (mkF m 2 #[.val (.int p0), .unset, .unset, .unset] [(.int (18 : Int32))])) rfl (hb hby at_2) rfl (by decide) (cap := 18) (by decide) (by decide) (by decide) (by decide)
  obtain ⟨b1, g1⟩ : ∃ z, z = h0.size := ⟨_, rfl⟩
  rw [← g1] at A1 st1
  have ge_b1 : Z.heap.size ≤ b1 := Nat.le_trans O.1 (Nat.le_of_eq g1.symm)
  have sz_b1 : h0.size ≤ b1 := Nat.le_trans (Keep.refl h0 []).1 (Nat.le_of_eq g1.symm)
  have K1 : Keep h0 h1 [] := (Keep.refl h0 []).ext E1
  have O1 := own_ext O E1
  have V1 : Arv Z h1 b1 k1 (.object "com/example/conformal/conformal/Expression$Operator") (18 : Int32) [.null, .null, .null, .null, .null, .null, .null, .null, .null, .null, .null, .null, .null, .null, .null, .null, .null, .null] .null := (Arv.new A1 (by decide)).pad (pad_rep [] .null 18)
  refine own_go (T1.setTop (mkF m 5 #[.val (.int p0), .unset, .unset, .unset] [(.ref b1)])) (fun t_ k_ => st1 _ k_) ?_
  refine own_go (T1.setTop (mkF m 6 #[.val (.int p0), .unset, .unset, .unset] [(.ref b1), (.ref b1)])) (fun t_ k_ => XS.dup X1.here hx rfl (hb hby at_5) rfl rfl k_) ?_
  refine own_go (T1.setTop (mkF m 7 #[.val (.int p0), .unset, .unset, .unset] [(.int (0 : Int32)), (.ref b1), (.ref b1)])) (fun t_ k_ => XS.iconst X1.here hx rfl (hb hby at_6) k_) ?_
  obtain ⟨T2, X2, e2, st2⟩ := getS2 X1 hx hZ hown (host := "") (Or.inl (hw _ (List.mem_of_getElem? (i := 2) rfl))) Via.refl e1 (S_INTEGER.ext O1) (g := (mkF m 7 #[.val (.int p0), .unset, .unset, .unset] [(.int (0 : Int32)), (.ref b1), (.ref b1)])) rfl (hb hby at_7)
  refine own_go (T2.setTop (mkF m 10 #[.val (.int p0), .unset, .unset, .unset] [(.ref a_INTEGER), (.int (0 : Int32)), (.ref b1), (.ref b1)])) (fun t_ k_ => st2 _ k_) ?_
  obtain ⟨cl3, Ar3, q3, Sz3, Nz3, Hz3, Gz3⟩ := V1
  have hin3 : ¬ ((0 : Int32) < 0 ∨ cl3.slots.size ≤ ((0 : Int32)).toNatClampNeg) := inb_of Sz3 ⟨by decide, by decide⟩
  obtain ⟨T3, h3, X3, e3, W3, st3⟩ := stR X2 hx hZ e2 Ar3 (j := (0 : Int32)) hin3 rfl (Sto.ofV Ar3 q3 Ov1 (Ins.self (X_INTEGER.ext O1))) (g := (mkF m 10 #[.val (.int p0), .unset, .unset, .unset] [(.ref a_INTEGER), (.int (0 : Int32)), (.ref b1), (.ref b1)])) rfl rfl (hb hby at_10)
  have V3 : Arv Z h3 b1 k1 (.object "com/example/conformal/conformal/Expression$Operator") (18 : Int32) [(.ref a_INTEGER), .null, .null, .null, .null, .null, .null, .null, .null, .null, .null, .null, .null, .null, .null, .null, .null, .null] .null := Arv.set Ar3 q3 Sz3 Nz3 Hz3 Gz3 rfl W3 0 rfl (Nat.le_of_ble_eq_true rfl)
  have K3 : Keep h0 h3 [] := K1.wr W3 (Or.inr sz_b1)
  have N3 := Fr.snoc X3 N0 ge_b1
  have O3 := own_extW O1 W3 ge_b1
  refine own_go (T3.setTop (mkF m 11 #[.val (.int p0), .unset, .unset, .unset] [(.ref b1)])) (fun t_ k_ => st3 _ k_) ?_
  refine own_go (T3.setTop (mkF m 12 #[.val (.int p0), .unset, .unset, .unset] [(.ref b1), (.ref b1)])) (fun t_ k_ => XS.dup X3.here hx rfl (hb hby at_11) rfl rfl k_) ?_
  refine own_go (T3.setTop (mkF m 13 #[.val (.int p0), .unset, .unset, .unset] [(.int (1 : Int32)), (.ref b1), (.ref b1)])) (fun t_ k_ => XS.iconst X3.here hx rfl (hb hby at_12) k_) ?_
  obtain ⟨T4, X4, e4, st4⟩ := getS2 X3 hx hZ hown (host := "") (Or.inl (hw _ (List.mem_of_getElem? (i := 6) rfl))) Via.refl e3 (S_STRING.ext O3) (g := (mkF m 13 #[.val (.int p0), .unset, .unset, .unset] [(.int (1 : Int32)), (.ref b1), (.ref b1)])) rfl (hb hby at_13)
  refine own_go (T4.setTop (mkF m 16 #[.val (.int p0), .unset, .unset, .unset] [(.ref a_STRING), (.int (1 : Int32)), (.ref b1), (.ref b1)])) (fun t_ k_ => st4 _ k_) ?_
  obtain ⟨cl5, Ar5, q5, Sz5, Nz5, Hz5, Gz5⟩ := V3
  have hin5 : ¬ ((1 : Int32) < 0 ∨ cl5.slots.size ≤ ((1 : Int32)).toNatClampNeg) := inb_of Sz5 ⟨by decide, by decide⟩
  obtain ⟨T5, h5, X5, e5, W5, st5⟩ := stR X4 hx hZ e4 Ar5 (j := (1 : Int32)) hin5 rfl (Sto.ofV Ar5 q5 Ov1 (Ins.self (X_STRING.ext O3))) (g := (mkF m 16 #[.val (.int p0), .unset, .unset, .unset] [(.ref a_STRING), (.int (1 : Int32)), (.ref b1), (.ref b1)])) rfl rfl (hb hby at_16)
  have V5 : Arv Z h5 b1 k1 (.object "com/example/conformal/conformal/Expression$Operator") (18 : Int32) [(.ref a_INTEGER), (.ref a_STRING), .null, .null, .null, .null, .null, .null, .null, .null, .null, .null, .null, .null, .null, .null, .null, .null] .null := Arv.set Ar5 q5 Sz5 Nz5 Hz5 Gz5 rfl W5 1 rfl (Nat.le_of_ble_eq_true rfl)
  have K5 : Keep h0 h5 [] := K3.wr W5 (Or.inr sz_b1)
  have N5 := Fr.snoc X5 N3 ge_b1
  have O5 := own_extW O3 W5 ge_b1
  refine own_go (T5.setTop (mkF m 17 #[.val (.int p0), .unset, .unset, .unset] [(.ref b1)])) (fun t_ k_ => st5 _ k_) ?_
  refine own_go (T5.setTop (mkF m 18 #[.val (.int p0), .unset, .unset, .unset] [(.ref b1), (.ref b1)])) (fun t_ k_ => XS.dup X5.here hx rfl (hb hby at_17) rfl rfl k_) ?_
  refine own_go (T5.setTop (mkF m 19 #[.val (.int p0), .unset, .unset, .unset] [(.int (2 : Int32)), (.ref b1), (.ref b1)])) (fun t_ k_ => XS.iconst X5.here hx rfl (hb hby at_18) k_) ?_
  obtain ⟨T6, X6, e6, st6⟩ := getS2 X5 hx hZ hown (host := "") (Or.inl (hw _ (List.mem_of_getElem? (i := 8) rfl))) Via.refl e5 (S_TRUE.ext O5) (g := (mkF m 19 #[.val (.int p0), .unset, .unset, .unset] [(.int (2 : Int32)), (.ref b1), (.ref b1)])) rfl (hb hby at_19)
  refine own_go (T6.setTop (mkF m 22 #[.val (.int p0), .unset, .unset, .unset] [(.ref a_TRUE), (.int (2 : Int32)), (.ref b1), (.ref b1)])) (fun t_ k_ => st6 _ k_) ?_
  obtain ⟨cl7, Ar7, q7, Sz7, Nz7, Hz7, Gz7⟩ := V5
  have hin7 : ¬ ((2 : Int32) < 0 ∨ cl7.slots.size ≤ ((2 : Int32)).toNatClampNeg) := inb_of Sz7 ⟨by decide, by decide⟩
  obtain ⟨T7, h7, X7, e7, W7, st7⟩ := stR X6 hx hZ e6 Ar7 (j := (2 : Int32)) hin7 rfl (Sto.ofV Ar7 q7 Ov1 (Ins.self (X_TRUE.ext O5))) (g := (mkF m 22 #[.val (.int p0), .unset, .unset, .unset] [(.ref a_TRUE), (.int (2 : Int32)), (.ref b1), (.ref b1)])) rfl rfl (hb hby at_22)
  have V7 : Arv Z h7 b1 k1 (.object "com/example/conformal/conformal/Expression$Operator") (18 : Int32) [(.ref a_INTEGER), (.ref a_STRING), (.ref a_TRUE), .null, .null, .null, .null, .null, .null, .null, .null, .null, .null, .null, .null, .null, .null, .null] .null := Arv.set Ar7 q7 Sz7 Nz7 Hz7 Gz7 rfl W7 2 rfl (Nat.le_of_ble_eq_true rfl)
  have K7 : Keep h0 h7 [] := K5.wr W7 (Or.inr sz_b1)
  have N7 := Fr.snoc X7 N5 ge_b1
  have O7 := own_extW O5 W7 ge_b1
  refine own_go (T7.setTop (mkF m 23 #[.val (.int p0), .unset, .unset, .unset] [(.ref b1)])) (fun t_ k_ => st7 _ k_) ?_
  refine own_go (T7.setTop (mkF m 24 #[.val (.int p0), .unset, .unset, .unset] [(.ref b1), (.ref b1)])) (fun t_ k_ => XS.dup X7.here hx rfl (hb hby at_23) rfl rfl k_) ?_
  refine own_go (T7.setTop (mkF m 25 #[.val (.int p0), .unset, .unset, .unset] [(.int (3 : Int32)), (.ref b1), (.ref b1)])) (fun t_ k_ => XS.iconst X7.here hx rfl (hb hby at_24) k_) ?_
  obtain ⟨T8, X8, e8, st8⟩ := getS2 X7 hx hZ hown (host := "") (Or.inl (hw _ (List.mem_of_getElem? (i := 10) rfl))) Via.refl e7 (S_FALSE.ext O7) (g := (mkF m 25 #[.val (.int p0), .unset, .unset, .unset] [(.int (3 : Int32)), (.ref b1), (.ref b1)])) rfl (hb hby at_25)
  refine own_go (T8.setTop (mkF m 28 #[.val (.int p0), .unset, .unset, .unset] [(.ref a_FALSE), (.int (3 : Int32)), (.ref b1), (.ref b1)])) (fun t_ k_ => st8 _ k_) ?_
  obtain ⟨cl9, Ar9, q9, Sz9, Nz9, Hz9, Gz9⟩ := V7
  have hin9 : ¬ ((3 : Int32) < 0 ∨ cl9.slots.size ≤ ((3 : Int32)).toNatClampNeg) := inb_of Sz9 ⟨by decide, by decide⟩
  obtain ⟨T9, h9, X9, e9, W9, st9⟩ := stR X8 hx hZ e8 Ar9 (j := (3 : Int32)) hin9 rfl (Sto.ofV Ar9 q9 Ov1 (Ins.self (X_FALSE.ext O7))) (g := (mkF m 28 #[.val (.int p0), .unset, .unset, .unset] [(.ref a_FALSE), (.int (3 : Int32)), (.ref b1), (.ref b1)])) rfl rfl (hb hby at_28)
  have V9 : Arv Z h9 b1 k1 (.object "com/example/conformal/conformal/Expression$Operator") (18 : Int32) [(.ref a_INTEGER), (.ref a_STRING), (.ref a_TRUE), (.ref a_FALSE), .null, .null, .null, .null, .null, .null, .null, .null, .null, .null, .null, .null, .null, .null] .null := Arv.set Ar9 q9 Sz9 Nz9 Hz9 Gz9 rfl W9 3 rfl (Nat.le_of_ble_eq_true rfl)
  have K9 : Keep h0 h9 [] := K7.wr W9 (Or.inr sz_b1)
  have N9 := Fr.snoc X9 N7 ge_b1
  have O9 := own_extW O7 W9 ge_b1
  refine own_go (T9.setTop (mkF m 29 #[.val (.int p0), .unset, .unset, .unset] [(.ref b1)])) (fun t_ k_ => st9 _ k_) ?_
  refine own_go (T9.setTop (mkF m 30 #[.val (.int p0), .unset, .unset, .unset] [(.ref b1), (.ref b1)])) (fun t_ k_ => XS.dup X9.here hx rfl (hb hby at_29) rfl rfl k_) ?_
  refine own_go (T9.setTop (mkF m 31 #[.val (.int p0), .unset, .unset, .unset] [(.int (4 : Int32)), (.ref b1), (.ref b1)])) (fun t_ k_ => XS.iconst X9.here hx rfl (hb hby at_30) k_) ?_
  obtain ⟨T10, X10, e10, st10⟩ := getS2 X9 hx hZ hown (host := "") (Or.inl (hw _ (List.mem_of_getElem? (i := 12) rfl))) Via.refl e9 (S_NAME.ext O9) (g := (mkF m 31 #[.val (.int p0), .unset, .unset, .unset] [(.int (4 : Int32)), (.ref b1), (.ref b1)])) rfl (hb hby at_31)
  refine own_go (T10.setTop (mkF m 34 #[.val (.int p0), .unset, .unset, .unset] [(.ref a_NAME), (.int (4 : Int32)), (.ref b1), (.ref b1)])) (fun t_ k_ => st10 _ k_) ?_
  obtain ⟨cl11, Ar11, q11, Sz11, Nz11, Hz11, Gz11⟩ := V9
  have hin11 : ¬ ((4 : Int32) < 0 ∨ cl11.slots.size ≤ ((4 : Int32)).toNatClampNeg) := inb_of Sz11 ⟨by decide, by decide⟩
  obtain ⟨T11, h11, X11, e11, W11, st11⟩ := stR X10 hx hZ e10 Ar11 (j := (4 : Int32)) hin11 rfl (Sto.ofV Ar11 q11 Ov1 (Ins.self (X_NAME.ext O9))) (g := (mkF m 34 #[.val (.int p0), .unset, .unset, .unset] [(.ref a_NAME), (.int (4 : Int32)), (.ref b1), (.ref b1)])) rfl rfl (hb hby at_34)
  have V11 : Arv Z h11 b1 k1 (.object "com/example/conformal/conformal/Expression$Operator") (18 : Int32) [(.ref a_INTEGER), (.ref a_STRING), (.ref a_TRUE), (.ref a_FALSE), (.ref a_NAME), .null, .null, .null, .null, .null, .null, .null, .null, .null, .null, .null, .null, .null] .null := Arv.set Ar11 q11 Sz11 Nz11 Hz11 Gz11 rfl W11 4 rfl (Nat.le_of_ble_eq_true rfl)
  have K11 : Keep h0 h11 [] := K9.wr W11 (Or.inr sz_b1)
  have N11 := Fr.snoc X11 N9 ge_b1
  have O11 := own_extW O9 W11 ge_b1
  refine own_go (T11.setTop (mkF m 35 #[.val (.int p0), .unset, .unset, .unset] [(.ref b1)])) (fun t_ k_ => st11 _ k_) ?_
  refine own_go (T11.setTop (mkF m 36 #[.val (.int p0), .unset, .unset, .unset] [(.ref b1), (.ref b1)])) (fun t_ k_ => XS.dup X11.here hx rfl (hb hby at_35) rfl rfl k_) ?_
  refine own_go (T11.setTop (mkF m 37 #[.val (.int p0), .unset, .unset, .unset] [(.int (5 : Int32)), (.ref b1), (.ref b1)])) (fun t_ k_ => XS.iconst X11.here hx rfl (hb hby at_36) k_) ?_
  obtain ⟨T12, X12, e12, st12⟩ := getS2 X11 hx hZ hown (host := "") (Or.inl (hw _ (List.mem_of_getElem? (i := 14) rfl))) Via.refl e11 (S_CALL.ext O11) (g := (mkF m 37 #[.val (.int p0), .unset, .unset, .unset] [(.int (5 : Int32)), (.ref b1), (.ref b1)])) rfl (hb hby at_37)
  refine own_go (T12.setTop (mkF m 40 #[.val (.int p0), .unset, .unset, .unset] [(.ref a_CALL), (.int (5 : Int32)), (.ref b1), (.ref b1)])) (fun t_ k_ => st12 _ k_) ?_
  obtain ⟨cl13, Ar13, q13, Sz13, Nz13, Hz13, Gz13⟩ := V11
  have hin13 : ¬ ((5 : Int32) < 0 ∨ cl13.slots.size ≤ ((5 : Int32)).toNatClampNeg) := inb_of Sz13 ⟨by decide, by decide⟩
  obtain ⟨T13, h13, X13, e13, W13, st13⟩ := stR X12 hx hZ e12 Ar13 (j := (5 : Int32)) hin13 rfl (Sto.ofV Ar13 q13 Ov1 (Ins.self (X_CALL.ext O11))) (g := (mkF m 40 #[.val (.int p0), .unset, .unset, .unset] [(.ref a_CALL), (.int (5 : Int32)), (.ref b1), (.ref b1)])) rfl rfl (hb hby at_40)
  have V13 : Arv Z h13 b1 k1 (.object "com/example/conformal/conformal/Expression$Operator") (18 : Int32) [(.ref a_INTEGER), (.ref a_STRING), (.ref a_TRUE), (.ref a_FALSE), (.ref a_NAME), (.ref a_CALL), .null, .null, .null, .null, .null, .null, .null, .null, .null, .null, .null, .null] .null := Arv.set Ar13 q13 Sz13 Nz13 Hz13 Gz13 rfl W13 5 rfl (Nat.le_of_ble_eq_true rfl)
  have K13 : Keep h0 h13 [] := K11.wr W13 (Or.inr sz_b1)
  have N13 := Fr.snoc X13 N11 ge_b1
  have O13 := own_extW O11 W13 ge_b1
  refine own_go (T13.setTop (mkF m 41 #[.val (.int p0), .unset, .unset, .unset] [(.ref b1)])) (fun t_ k_ => st13 _ k_) ?_
  refine own_go (T13.setTop (mkF m 42 #[.val (.int p0), .unset, .unset, .unset] [(.ref b1), (.ref b1)])) (fun t_ k_ => XS.dup X13.here hx rfl (hb hby at_41) rfl rfl k_) ?_
  refine own_go (T13.setTop (mkF m 44 #[.val (.int p0), .unset, .unset, .unset] [(.int (6 : Int32)), (.ref b1), (.ref b1)])) (fun t_ k_ => XS.bipush X13.here hx rfl (hb hby at_42) k_) ?_
  obtain ⟨T14, X14, e14, st14⟩ := getS2 X13 hx hZ hown (host := "") (Or.inl (hw _ (List.mem_of_getElem? (i := 16) rfl))) Via.refl e13 (S_OR.ext O13) (g := (mkF m 44 #[.val (.int p0), .unset, .unset, .unset] [(.int (6 : Int32)), (.ref b1), (.ref b1)])) rfl (hb hby at_44)
  refine own_go (T14.setTop (mkF m 47 #[.val (.int p0), .unset, .unset, .unset] [(.ref a_OR), (.int (6 : Int32)), (.ref b1), (.ref b1)])) (fun t_ k_ => st14 _ k_) ?_
  obtain ⟨cl15, Ar15, q15, Sz15, Nz15, Hz15, Gz15⟩ := V13
  have hin15 : ¬ ((6 : Int32) < 0 ∨ cl15.slots.size ≤ ((6 : Int32)).toNatClampNeg) := inb_of Sz15 ⟨by decide, by decide⟩
  obtain ⟨T15, h15, X15, e15, W15, st15⟩ := stR X14 hx hZ e14 Ar15 (j := (6 : Int32)) hin15 rfl (Sto.ofV Ar15 q15 Ov1 (Ins.self (X_OR.ext O13))) (g := (mkF m 47 #[.val (.int p0), .unset, .unset, .unset] [(.ref a_OR), (.int (6 : Int32)), (.ref b1), (.ref b1)])) rfl rfl (hb hby at_47)
  have V15 : Arv Z h15 b1 k1 (.object "com/example/conformal/conformal/Expression$Operator") (18 : Int32) [(.ref a_INTEGER), (.ref a_STRING), (.ref a_TRUE), (.ref a_FALSE), (.ref a_NAME), (.ref a_CALL), (.ref a_OR), .null, .null, .null, .null, .null, .null, .null, .null, .null, .null, .null] .null := Arv.set Ar15 q15 Sz15 Nz15 Hz15 Gz15 rfl W15 6 rfl (Nat.le_of_ble_eq_true rfl)
  have K15 : Keep h0 h15 [] := K13.wr W15 (Or.inr sz_b1)
  have N15 := Fr.snoc X15 N13 ge_b1
  have O15 := own_extW O13 W15 ge_b1
  refine own_go (T15.setTop (mkF m 48 #[.val (.int p0), .unset, .unset, .unset] [(.ref b1)])) (fun t_ k_ => st15 _ k_) ?_
  refine own_go (T15.setTop (mkF m 49 #[.val (.int p0), .unset, .unset, .unset] [(.ref b1), (.ref b1)])) (fun t_ k_ => XS.dup X15.here hx rfl (hb hby at_48) rfl rfl k_) ?_
  refine own_go (T15.setTop (mkF m 51 #[.val (.int p0), .unset, .unset, .unset] [(.int (7 : Int32)), (.ref b1), (.ref b1)])) (fun t_ k_ => XS.bipush X15.here hx rfl (hb hby at_49) k_) ?_
  obtain ⟨T16, X16, e16, st16⟩ := getS2 X15 hx hZ hown (host := "") (Or.inl (hw _ (List.mem_of_getElem? (i := 18) rfl))) Via.refl e15 (S_AND.ext O15) (g := (mkF m 51 #[.val (.int p0), .unset, .unset, .unset] [(.int (7 : Int32)), (.ref b1), (.ref b1)])) rfl (hb hby at_51)
  refine own_go (T16.setTop (mkF m 54 #[.val (.int p0), .unset, .unset, .unset] [(.ref a_AND), (.int (7 : Int32)), (.ref b1), (.ref b1)])) (fun t_ k_ => st16 _ k_) ?_
  obtain ⟨cl17, Ar17, q17, Sz17, Nz17, Hz17, Gz17⟩ := V15
  have hin17 : ¬ ((7 : Int32) < 0 ∨ cl17.slots.size ≤ ((7 : Int32)).toNatClampNeg) := inb_of Sz17 ⟨by decide, by decide⟩
  obtain ⟨T17, h17, X17, e17, W17, st17⟩ := stR X16 hx hZ e16 Ar17 (j := (7 : Int32)) hin17 rfl (Sto.ofV Ar17 q17 Ov1 (Ins.self (X_AND.ext O15))) (g := (mkF m 54 #[.val (.int p0), .unset, .unset, .unset] [(.ref a_AND), (.int (7 : Int32)), (.ref b1), (.ref b1)])) rfl rfl (hb hby at_54)
  have V17 : Arv Z h17 b1 k1 (.object "com/example/conformal/conformal/Expression$Operator") (18 : Int32) [(.ref a_INTEGER), (.ref a_STRING), (.ref a_TRUE), (.ref a_FALSE), (.ref a_NAME), (.ref a_CALL), (.ref a_OR), (.ref a_AND), .null, .null, .null, .null, .null, .null, .null, .null, .null, .null] .null := Arv.set Ar17 q17 Sz17 Nz17 Hz17 Gz17 rfl W17 7 rfl (Nat.le_of_ble_eq_true rfl)
  have K17 : Keep h0 h17 [] := K15.wr W17 (Or.inr sz_b1)
  have N17 := Fr.snoc X17 N15 ge_b1
  have O17 := own_extW O15 W17 ge_b1
  refine own_go (T17.setTop (mkF m 55 #[.val (.int p0), .unset, .unset, .unset] [(.ref b1)])) (fun t_ k_ => st17 _ k_) ?_
  refine own_go (T17.setTop (mkF m 56 #[.val (.int p0), .unset, .unset, .unset] [(.ref b1), (.ref b1)])) (fun t_ k_ => XS.dup X17.here hx rfl (hb hby at_55) rfl rfl k_) ?_
  refine own_go (T17.setTop (mkF m 58 #[.val (.int p0), .unset, .unset, .unset] [(.int (8 : Int32)), (.ref b1), (.ref b1)])) (fun t_ k_ => XS.bipush X17.here hx rfl (hb hby at_56) k_) ?_
  obtain ⟨T18, X18, e18, st18⟩ := getS2 X17 hx hZ hown (host := "") (Or.inl (hw _ (List.mem_of_getElem? (i := 20) rfl))) Via.refl e17 (S_NOT.ext O17) (g := (mkF m 58 #[.val (.int p0), .unset, .unset, .unset] [(.int (8 : Int32)), (.ref b1), (.ref b1)])) rfl (hb hby at_58)
  refine own_go (T18.setTop (mkF m 61 #[.val (.int p0), .unset, .unset, .unset] [(.ref a_NOT), (.int (8 : Int32)), (.ref b1), (.ref b1)])) (fun t_ k_ => st18 _ k_) ?_
  obtain ⟨cl19, Ar19, q19, Sz19, Nz19, Hz19, Gz19⟩ := V17
  have hin19 : ¬ ((8 : Int32) < 0 ∨ cl19.slots.size ≤ ((8 : Int32)).toNatClampNeg) := inb_of Sz19 ⟨by decide, by decide⟩
  obtain ⟨T19, h19, X19, e19, W19, st19⟩ := stR X18 hx hZ e18 Ar19 (j := (8 : Int32)) hin19 rfl (Sto.ofV Ar19 q19 Ov1 (Ins.self (X_NOT.ext O17))) (g := (mkF m 61 #[.val (.int p0), .unset, .unset, .unset] [(.ref a_NOT), (.int (8 : Int32)), (.ref b1), (.ref b1)])) rfl rfl (hb hby at_61)
  have V19 : Arv Z h19 b1 k1 (.object "com/example/conformal/conformal/Expression$Operator") (18 : Int32) [(.ref a_INTEGER), (.ref a_STRING), (.ref a_TRUE), (.ref a_FALSE), (.ref a_NAME), (.ref a_CALL), (.ref a_OR), (.ref a_AND), (.ref a_NOT), .null, .null, .null, .null, .null, .null, .null, .null, .null] .null := Arv.set Ar19 q19 Sz19 Nz19 Hz19 Gz19 rfl W19 8 rfl (Nat.le_of_ble_eq_true rfl)
  have K19 : Keep h0 h19 [] := K17.wr W19 (Or.inr sz_b1)
  have N19 := Fr.snoc X19 N17 ge_b1
  have O19 := own_extW O17 W19 ge_b1
  refine own_go (T19.setTop (mkF m 62 #[.val (.int p0), .unset, .unset, .unset] [(.ref b1)])) (fun t_ k_ => st19 _ k_) ?_
  refine own_go (T19.setTop (mkF m 63 #[.val (.int p0), .unset, .unset, .unset] [(.ref b1), (.ref b1)])) (fun t_ k_ => XS.dup X19.here hx rfl (hb hby at_62) rfl rfl k_) ?_
  refine own_go (T19.setTop (mkF m 65 #[.val (.int p0), .unset, .unset, .unset] [(.int (9 : Int32)), (.ref b1), (.ref b1)])) (fun t_ k_ => XS.bipush X19.here hx rfl (hb hby at_63) k_) ?_
  obtain ⟨T20, X20, e20, st20⟩ := getS2 X19 hx hZ hown (host := "") (Or.inl (hw _ (List.mem_of_getElem? (i := 22) rfl))) Via.refl e19 (S_EQUAL.ext O19) (g := (mkF m 65 #[.val (.int p0), .unset, .unset, .unset] [(.int (9 : Int32)), (.ref b1), (.ref b1)])) rfl (hb hby at_65)
  refine own_go (T20.setTop (mkF m 68 #[.val (.int p0), .unset, .unset, .unset] [(.ref a_EQUAL), (.int (9 : Int32)), (.ref b1), (.ref b1)])) (fun t_ k_ => st20 _ k_) ?_
  obtain ⟨cl21, Ar21, q21, Sz21, Nz21, Hz21, Gz21⟩ := V19
  have hin21 : ¬ ((9 : Int32) < 0 ∨ cl21.slots.size ≤ ((9 : Int32)).toNatClampNeg) := inb_of Sz21 ⟨by decide, by decide⟩
  obtain ⟨T21, h21, X21, e21, W21, st21⟩ := stR X20 hx hZ e20 Ar21 (j := (9 : Int32)) hin21 rfl (Sto.ofV Ar21 q21 Ov1 (Ins.self (X_EQUAL.ext O19))) (g := (mkF m 68 #[.val (.int p0), .unset, .unset, .unset] [(.ref a_EQUAL), (.int (9 : Int32)), (.ref b1), (.ref b1)])) rfl rfl (hb hby at_68)
  have V21 : Arv Z h21 b1 k1 (.object "com/example/conformal/conformal/Expression$Operator") (18 : Int32) [(.ref a_INTEGER), (.ref a_STRING), (.ref a_TRUE), (.ref a_FALSE), (.ref a_NAME), (.ref a_CALL), (.ref a_OR), (.ref a_AND), (.ref a_NOT), (.ref a_EQUAL), .null, .null, .null, .null, .null, .null, .null, .null] .null := Arv.set Ar21 q21 Sz21 Nz21 Hz21 Gz21 rfl W21 9 rfl (Nat.le_of_ble_eq_true rfl)
  have K21 : Keep h0 h21 [] := K19.wr W21 (Or.inr sz_b1)
  have N21 := Fr.snoc X21 N19 ge_b1
  have O21 := own_extW O19 W21 ge_b1
  refine own_go (T21.setTop (mkF m 69 #[.val (.int p0), .unset, .unset, .unset] [(.ref b1)])) (fun t_ k_ => st21 _ k_) ?_
  refine own_go (T21.setTop (mkF m 70 #[.val (.int p0), .unset, .unset, .unset] [(.ref b1), (.ref b1)])) (fun t_ k_ => XS.dup X21.here hx rfl (hb hby at_69) rfl rfl k_) ?_
  refine own_go (T21.setTop (mkF m 72 #[.val (.int p0), .unset, .unset, .unset] [(.int (10 : Int32)), (.ref b1), (.ref b1)])) (fun t_ k_ => XS.bipush X21.here hx rfl (hb hby at_70) k_) ?_
  obtain ⟨T22, X22, e22, st22⟩ := getS2 X21 hx hZ hown (host := "") (Or.inl (hw _ (List.mem_of_getElem? (i := 24) rfl))) Via.refl e21 (S_NOT_EQUAL.ext O21) (g := (mkF m 72 #[.val (.int p0), .unset, .unset, .unset] [(.int (10 : Int32)), (.ref b1), (.ref b1)])) rfl (hb hby at_72)
  refine own_go (T22.setTop (mkF m 75 #[.val (.int p0), .unset, .unset, .unset] [(.ref a_NOT_EQUAL), (.int (10 : Int32)), (.ref b1), (.ref b1)])) (fun t_ k_ => st22 _ k_) ?_
  obtain ⟨cl23, Ar23, q23, Sz23, Nz23, Hz23, Gz23⟩ := V21
  have hin23 : ¬ ((10 : Int32) < 0 ∨ cl23.slots.size ≤ ((10 : Int32)).toNatClampNeg) := inb_of Sz23 ⟨by decide, by decide⟩
  obtain ⟨T23, h23, X23, e23, W23, st23⟩ := stR X22 hx hZ e22 Ar23 (j := (10 : Int32)) hin23 rfl (Sto.ofV Ar23 q23 Ov1 (Ins.self (X_NOT_EQUAL.ext O21))) (g := (mkF m 75 #[.val (.int p0), .unset, .unset, .unset] [(.ref a_NOT_EQUAL), (.int (10 : Int32)), (.ref b1), (.ref b1)])) rfl rfl (hb hby at_75)
  have V23 : Arv Z h23 b1 k1 (.object "com/example/conformal/conformal/Expression$Operator") (18 : Int32) [(.ref a_INTEGER), (.ref a_STRING), (.ref a_TRUE), (.ref a_FALSE), (.ref a_NAME), (.ref a_CALL), (.ref a_OR), (.ref a_AND), (.ref a_NOT), (.ref a_EQUAL), (.ref a_NOT_EQUAL), .null, .null, .null, .null, .null, .null, .null] .null := Arv.set Ar23 q23 Sz23 Nz23 Hz23 Gz23 rfl W23 10 rfl (Nat.le_of_ble_eq_true rfl)
  have K23 : Keep h0 h23 [] := K21.wr W23 (Or.inr sz_b1)
  have N23 := Fr.snoc X23 N21 ge_b1
  have O23 := own_extW O21 W23 ge_b1
  refine own_go (T23.setTop (mkF m 76 #[.val (.int p0), .unset, .unset, .unset] [(.ref b1)])) (fun t_ k_ => st23 _ k_) ?_
  refine own_go (T23.setTop (mkF m 77 #[.val (.int p0), .unset, .unset, .unset] [(.ref b1), (.ref b1)])) (fun t_ k_ => XS.dup X23.here hx rfl (hb hby at_76) rfl rfl k_) ?_
  refine own_go (T23.setTop (mkF m 79 #[.val (.int p0), .unset, .unset, .unset] [(.int (11 : Int32)), (.ref b1), (.ref b1)])) (fun t_ k_ => XS.bipush X23.here hx rfl (hb hby at_77) k_) ?_
  obtain ⟨T24, X24, e24, st24⟩ := getS2 X23 hx hZ hown (host := "") (Or.inl (hw _ (List.mem_of_getElem? (i := 26) rfl))) Via.refl e23 (S_LESS.ext O23) (g := (mkF m 79 #[.val (.int p0), .unset, .unset, .unset] [(.int (11 : Int32)), (.ref b1), (.ref b1)])) rfl (hb hby at_79)
  refine own_go (T24.setTop (mkF m 82 #[.val (.int p0), .unset, .unset, .unset] [(.ref a_LESS), (.int (11 : Int32)), (.ref b1), (.ref b1)])) (fun t_ k_ => st24 _ k_) ?_
  obtain ⟨cl25, Ar25, q25, Sz25, Nz25, Hz25, Gz25⟩ := V23
  have hin25 : ¬ ((11 : Int32) < 0 ∨ cl25.slots.size ≤ ((11 : Int32)).toNatClampNeg) := inb_of Sz25 ⟨by decide, by decide⟩
  obtain ⟨T25, h25, X25, e25, W25, st25⟩ := stR X24 hx hZ e24 Ar25 (j := (11 : Int32)) hin25 rfl (Sto.ofV Ar25 q25 Ov1 (Ins.self (X_LESS.ext O23))) (g := (mkF m 82 #[.val (.int p0), .unset, .unset, .unset] [(.ref a_LESS), (.int (11 : Int32)), (.ref b1), (.ref b1)])) rfl rfl (hb hby at_82)
  have V25 : Arv Z h25 b1 k1 (.object "com/example/conformal/conformal/Expression$Operator") (18 : Int32) [(.ref a_INTEGER), (.ref a_STRING), (.ref a_TRUE), (.ref a_FALSE), (.ref a_NAME), (.ref a_CALL), (.ref a_OR), (.ref a_AND), (.ref a_NOT), (.ref a_EQUAL), (.ref a_NOT_EQUAL), (.ref a_LESS), .null, .null, .null, .null, .null, .null] .null := Arv.set Ar25 q25 Sz25 Nz25 Hz25 Gz25 rfl W25 11 rfl (Nat.le_of_ble_eq_true rfl)
  have K25 : Keep h0 h25 [] := K23.wr W25 (Or.inr sz_b1)
  have N25 := Fr.snoc X25 N23 ge_b1
  have O25 := own_extW O23 W25 ge_b1
  refine own_go (T25.setTop (mkF m 83 #[.val (.int p0), .unset, .unset, .unset] [(.ref b1)])) (fun t_ k_ => st25 _ k_) ?_
  refine own_go (T25.setTop (mkF m 84 #[.val (.int p0), .unset, .unset, .unset] [(.ref b1), (.ref b1)])) (fun t_ k_ => XS.dup X25.here hx rfl (hb hby at_83) rfl rfl k_) ?_
  refine own_go (T25.setTop (mkF m 86 #[.val (.int p0), .unset, .unset, .unset] [(.int (12 : Int32)), (.ref b1), (.ref b1)])) (fun t_ k_ => XS.bipush X25.here hx rfl (hb hby at_84) k_) ?_
  obtain ⟨T26, X26, e26, st26⟩ := getS2 X25 hx hZ hown (host := "") (Or.inl (hw _ (List.mem_of_getElem? (i := 28) rfl))) Via.refl e25 (S_LESS_EQUAL.ext O25) (g := (mkF m 86 #[.val (.int p0), .unset, .unset, .unset] [(.int (12 : Int32)), (.ref b1), (.ref b1)])) rfl (hb hby at_86)
  refine own_go (T26.setTop (mkF m 89 #[.val (.int p0), .unset, .unset, .unset] [(.ref a_LESS_EQUAL), (.int (12 : Int32)), (.ref b1), (.ref b1)])) (fun t_ k_ => st26 _ k_) ?_
  obtain ⟨cl27, Ar27, q27, Sz27, Nz27, Hz27, Gz27⟩ := V25
  have hin27 : ¬ ((12 : Int32) < 0 ∨ cl27.slots.size ≤ ((12 : Int32)).toNatClampNeg) := inb_of Sz27 ⟨by decide, by decide⟩
  obtain ⟨T27, h27, X27, e27, W27, st27⟩ := stR X26 hx hZ e26 Ar27 (j := (12 : Int32)) hin27 rfl (Sto.ofV Ar27 q27 Ov1 (Ins.self (X_LESS_EQUAL.ext O25))) (g := (mkF m 89 #[.val (.int p0), .unset, .unset, .unset] [(.ref a_LESS_EQUAL), (.int (12 : Int32)), (.ref b1), (.ref b1)])) rfl rfl (hb hby at_89)
  have V27 : Arv Z h27 b1 k1 (.object "com/example/conformal/conformal/Expression$Operator") (18 : Int32) [(.ref a_INTEGER), (.ref a_STRING), (.ref a_TRUE), (.ref a_FALSE), (.ref a_NAME), (.ref a_CALL), (.ref a_OR), (.ref a_AND), (.ref a_NOT), (.ref a_EQUAL), (.ref a_NOT_EQUAL), (.ref a_LESS), (.ref a_LESS_EQUAL), .null, .null, .null, .null, .null] .null := Arv.set Ar27 q27 Sz27 Nz27 Hz27 Gz27 rfl W27 12 rfl (Nat.le_of_ble_eq_true rfl)
  have K27 : Keep h0 h27 [] := K25.wr W27 (Or.inr sz_b1)
  have N27 := Fr.snoc X27 N25 ge_b1
  have O27 := own_extW O25 W27 ge_b1
  refine own_go (T27.setTop (mkF m 90 #[.val (.int p0), .unset, .unset, .unset] [(.ref b1)])) (fun t_ k_ => st27 _ k_) ?_
  refine own_go (T27.setTop (mkF m 91 #[.val (.int p0), .unset, .unset, .unset] [(.ref b1), (.ref b1)])) (fun t_ k_ => XS.dup X27.here hx rfl (hb hby at_90) rfl rfl k_) ?_
  refine own_go (T27.setTop (mkF m 93 #[.val (.int p0), .unset, .unset, .unset] [(.int (13 : Int32)), (.ref b1), (.ref b1)])) (fun t_ k_ => XS.bipush X27.here hx rfl (hb hby at_91) k_) ?_
  obtain ⟨T28, X28, e28, st28⟩ := getS2 X27 hx hZ hown (host := "") (Or.inl (hw _ (List.mem_of_getElem? (i := 30) rfl))) Via.refl e27 (S_GREATER.ext O27) (g := (mkF m 93 #[.val (.int p0), .unset, .unset, .unset] [(.int (13 : Int32)), (.ref b1), (.ref b1)])) rfl (hb hby at_93)
  refine own_go (T28.setTop (mkF m 96 #[.val (.int p0), .unset, .unset, .unset] [(.ref a_GREATER), (.int (13 : Int32)), (.ref b1), (.ref b1)])) (fun t_ k_ => st28 _ k_) ?_
  obtain ⟨cl29, Ar29, q29, Sz29, Nz29, Hz29, Gz29⟩ := V27
  have hin29 : ¬ ((13 : Int32) < 0 ∨ cl29.slots.size ≤ ((13 : Int32)).toNatClampNeg) := inb_of Sz29 ⟨by decide, by decide⟩
  obtain ⟨T29, h29, X29, e29, W29, st29⟩ := stR X28 hx hZ e28 Ar29 (j := (13 : Int32)) hin29 rfl (Sto.ofV Ar29 q29 Ov1 (Ins.self (X_GREATER.ext O27))) (g := (mkF m 96 #[.val (.int p0), .unset, .unset, .unset] [(.ref a_GREATER), (.int (13 : Int32)), (.ref b1), (.ref b1)])) rfl rfl (hb hby at_96)
  have V29 : Arv Z h29 b1 k1 (.object "com/example/conformal/conformal/Expression$Operator") (18 : Int32) [(.ref a_INTEGER), (.ref a_STRING), (.ref a_TRUE), (.ref a_FALSE), (.ref a_NAME), (.ref a_CALL), (.ref a_OR), (.ref a_AND), (.ref a_NOT), (.ref a_EQUAL), (.ref a_NOT_EQUAL), (.ref a_LESS), (.ref a_LESS_EQUAL), (.ref a_GREATER), .null, .null, .null, .null] .null := Arv.set Ar29 q29 Sz29 Nz29 Hz29 Gz29 rfl W29 13 rfl (Nat.le_of_ble_eq_true rfl)
  have K29 : Keep h0 h29 [] := K27.wr W29 (Or.inr sz_b1)
  have N29 := Fr.snoc X29 N27 ge_b1
  have O29 := own_extW O27 W29 ge_b1
  refine own_go (T29.setTop (mkF m 97 #[.val (.int p0), .unset, .unset, .unset] [(.ref b1)])) (fun t_ k_ => st29 _ k_) ?_
  refine own_go (T29.setTop (mkF m 98 #[.val (.int p0), .unset, .unset, .unset] [(.ref b1), (.ref b1)])) (fun t_ k_ => XS.dup X29.here hx rfl (hb hby at_97) rfl rfl k_) ?_
  refine own_go (T29.setTop (mkF m 100 #[.val (.int p0), .unset, .unset, .unset] [(.int (14 : Int32)), (.ref b1), (.ref b1)])) (fun t_ k_ => XS.bipush X29.here hx rfl (hb hby at_98) k_) ?_
  obtain ⟨T30, X30, e30, st30⟩ := getS2 X29 hx hZ hown (host := "") (Or.inl (hw _ (List.mem_of_getElem? (i := 32) rfl))) Via.refl e29 (S_GREATER_EQUAL.ext O29) (g := (mkF m 100 #[.val (.int p0), .unset, .unset, .unset] [(.int (14 : Int32)), (.ref b1), (.ref b1)])) rfl (hb hby at_100)
  refine own_go (T30.setTop (mkF m 103 #[.val (.int p0), .unset, .unset, .unset] [(.ref a_GREATER_EQUAL), (.int (14 : Int32)), (.ref b1), (.ref b1)])) (fun t_ k_ => st30 _ k_) ?_
  obtain ⟨cl31, Ar31, q31, Sz31, Nz31, Hz31, Gz31⟩ := V29
  have hin31 : ¬ ((14 : Int32) < 0 ∨ cl31.slots.size ≤ ((14 : Int32)).toNatClampNeg) := inb_of Sz31 ⟨by decide, by decide⟩
  obtain ⟨T31, h31, X31, e31, W31, st31⟩ := stR X30 hx hZ e30 Ar31 (j := (14 : Int32)) hin31 rfl (Sto.ofV Ar31 q31 Ov1 (Ins.self (X_GREATER_EQUAL.ext O29))) (g := (mkF m 103 #[.val (.int p0), .unset, .unset, .unset] [(.ref a_GREATER_EQUAL), (.int (14 : Int32)), (.ref b1), (.ref b1)])) rfl rfl (hb hby at_103)
  have V31 : Arv Z h31 b1 k1 (.object "com/example/conformal/conformal/Expression$Operator") (18 : Int32) [(.ref a_INTEGER), (.ref a_STRING), (.ref a_TRUE), (.ref a_FALSE), (.ref a_NAME), (.ref a_CALL), (.ref a_OR), (.ref a_AND), (.ref a_NOT), (.ref a_EQUAL), (.ref a_NOT_EQUAL), (.ref a_LESS), (.ref a_LESS_EQUAL), (.ref a_GREATER), (.ref a_GREATER_EQUAL), .null, .null, .null] .null := Arv.set Ar31 q31 Sz31 Nz31 Hz31 Gz31 rfl W31 14 rfl (Nat.le_of_ble_eq_true rfl)
  have K31 : Keep h0 h31 [] := K29.wr W31 (Or.inr sz_b1)
  have N31 := Fr.snoc X31 N29 ge_b1
  have O31 := own_extW O29 W31 ge_b1
  refine own_go (T31.setTop (mkF m 104 #[.val (.int p0), .unset, .unset, .unset] [(.ref b1)])) (fun t_ k_ => st31 _ k_) ?_
  refine own_go (T31.setTop (mkF m 105 #[.val (.int p0), .unset, .unset, .unset] [(.ref b1), (.ref b1)])) (fun t_ k_ => XS.dup X31.here hx rfl (hb hby at_104) rfl rfl k_) ?_
  refine own_go (T31.setTop (mkF m 107 #[.val (.int p0), .unset, .unset, .unset] [(.int (15 : Int32)), (.ref b1), (.ref b1)])) (fun t_ k_ => XS.bipush X31.here hx rfl (hb hby at_105) k_) ?_
  obtain ⟨T32, X32, e32, st32⟩ := getS2 X31 hx hZ hown (host := "") (Or.inl (hw _ (List.mem_of_getElem? (i := 34) rfl))) Via.refl e31 (S_ADD.ext O31) (g := (mkF m 107 #[.val (.int p0), .unset, .unset, .unset] [(.int (15 : Int32)), (.ref b1), (.ref b1)])) rfl (hb hby at_107)
  refine own_go (T32.setTop (mkF m 110 #[.val (.int p0), .unset, .unset, .unset] [(.ref a_ADD), (.int (15 : Int32)), (.ref b1), (.ref b1)])) (fun t_ k_ => st32 _ k_) ?_
  obtain ⟨cl33, Ar33, q33, Sz33, Nz33, Hz33, Gz33⟩ := V31
  have hin33 : ¬ ((15 : Int32) < 0 ∨ cl33.slots.size ≤ ((15 : Int32)).toNatClampNeg) := inb_of Sz33 ⟨by decide, by decide⟩
  obtain ⟨T33, h33, X33, e33, W33, st33⟩ := stR X32 hx hZ e32 Ar33 (j := (15 : Int32)) hin33 rfl (Sto.ofV Ar33 q33 Ov1 (Ins.self (X_ADD.ext O31))) (g := (mkF m 110 #[.val (.int p0), .unset, .unset, .unset] [(.ref a_ADD), (.int (15 : Int32)), (.ref b1), (.ref b1)])) rfl rfl (hb hby at_110)
  have V33 : Arv Z h33 b1 k1 (.object "com/example/conformal/conformal/Expression$Operator") (18 : Int32) [(.ref a_INTEGER), (.ref a_STRING), (.ref a_TRUE), (.ref a_FALSE), (.ref a_NAME), (.ref a_CALL), (.ref a_OR), (.ref a_AND), (.ref a_NOT), (.ref a_EQUAL), (.ref a_NOT_EQUAL), (.ref a_LESS), (.ref a_LESS_EQUAL), (.ref a_GREATER), (.ref a_GREATER_EQUAL), (.ref a_ADD), .null, .null] .null := Arv.set Ar33 q33 Sz33 Nz33 Hz33 Gz33 rfl W33 15 rfl (Nat.le_of_ble_eq_true rfl)
  have K33 : Keep h0 h33 [] := K31.wr W33 (Or.inr sz_b1)
  have N33 := Fr.snoc X33 N31 ge_b1
  have O33 := own_extW O31 W33 ge_b1
  refine own_go (T33.setTop (mkF m 111 #[.val (.int p0), .unset, .unset, .unset] [(.ref b1)])) (fun t_ k_ => st33 _ k_) ?_
  refine own_go (T33.setTop (mkF m 112 #[.val (.int p0), .unset, .unset, .unset] [(.ref b1), (.ref b1)])) (fun t_ k_ => XS.dup X33.here hx rfl (hb hby at_111) rfl rfl k_) ?_
  refine own_go (T33.setTop (mkF m 114 #[.val (.int p0), .unset, .unset, .unset] [(.int (16 : Int32)), (.ref b1), (.ref b1)])) (fun t_ k_ => XS.bipush X33.here hx rfl (hb hby at_112) k_) ?_
  obtain ⟨T34, X34, e34, st34⟩ := getS2 X33 hx hZ hown (host := "") (Or.inl (hw _ (List.mem_of_getElem? (i := 36) rfl))) Via.refl e33 (S_SUBTRACT.ext O33) (g := (mkF m 114 #[.val (.int p0), .unset, .unset, .unset] [(.int (16 : Int32)), (.ref b1), (.ref b1)])) rfl (hb hby at_114)
  refine own_go (T34.setTop (mkF m 117 #[.val (.int p0), .unset, .unset, .unset] [(.ref a_SUBTRACT), (.int (16 : Int32)), (.ref b1), (.ref b1)])) (fun t_ k_ => st34 _ k_) ?_
  obtain ⟨cl35, Ar35, q35, Sz35, Nz35, Hz35, Gz35⟩ := V33
  have hin35 : ¬ ((16 : Int32) < 0 ∨ cl35.slots.size ≤ ((16 : Int32)).toNatClampNeg) := inb_of Sz35 ⟨by decide, by decide⟩
  obtain ⟨T35, h35, X35, e35, W35, st35⟩ := stR X34 hx hZ e34 Ar35 (j := (16 : Int32)) hin35 rfl (Sto.ofV Ar35 q35 Ov1 (Ins.self (X_SUBTRACT.ext O33))) (g := (mkF m 117 #[.val (.int p0), .unset, .unset, .unset] [(.ref a_SUBTRACT), (.int (16 : Int32)), (.ref b1), (.ref b1)])) rfl rfl (hb hby at_117)
  have V35 : Arv Z h35 b1 k1 (.object "com/example/conformal/conformal/Expression$Operator") (18 : Int32) [(.ref a_INTEGER), (.ref a_STRING), (.ref a_TRUE), (.ref a_FALSE), (.ref a_NAME), (.ref a_CALL), (.ref a_OR), (.ref a_AND), (.ref a_NOT), (.ref a_EQUAL), (.ref a_NOT_EQUAL), (.ref a_LESS), (.ref a_LESS_EQUAL), (.ref a_GREATER), (.ref a_GREATER_EQUAL), (.ref a_ADD), (.ref a_SUBTRACT), .null] .null := Arv.set Ar35 q35 Sz35 Nz35 Hz35 Gz35 rfl W35 16 rfl (Nat.le_of_ble_eq_true rfl)
  have K35 : Keep h0 h35 [] := K33.wr W35 (Or.inr sz_b1)
  have N35 := Fr.snoc X35 N33 ge_b1
  have O35 := own_extW O33 W35 ge_b1
  refine own_go (T35.setTop (mkF m 118 #[.val (.int p0), .unset, .unset, .unset] [(.ref b1)])) (fun t_ k_ => st35 _ k_) ?_
  refine own_go (T35.setTop (mkF m 119 #[.val (.int p0), .unset, .unset, .unset] [(.ref b1), (.ref b1)])) (fun t_ k_ => XS.dup X35.here hx rfl (hb hby at_118) rfl rfl k_) ?_
  refine own_go (T35.setTop (mkF m 121 #[.val (.int p0), .unset, .unset, .unset] [(.int (17 : Int32)), (.ref b1), (.ref b1)])) (fun t_ k_ => XS.bipush X35.here hx rfl (hb hby at_119) k_) ?_
  obtain ⟨T36, X36, e36, st36⟩ := getS2 X35 hx hZ hown (host := "") (Or.inl (hw _ (List.mem_of_getElem? (i := 38) rfl))) Via.refl e35 (S_NEGATE.ext O35) (g := (mkF m 121 #[.val (.int p0), .unset, .unset, .unset] [(.int (17 : Int32)), (.ref b1), (.ref b1)])) rfl (hb hby at_121)
  refine own_go (T36.setTop (mkF m 124 #[.val (.int p0), .unset, .unset, .unset] [(.ref a_NEGATE), (.int (17 : Int32)), (.ref b1), (.ref b1)])) (fun t_ k_ => st36 _ k_) ?_
  obtain ⟨cl37, Ar37, q37, Sz37, Nz37, Hz37, Gz37⟩ := V35
  have hin37 : ¬ ((17 : Int32) < 0 ∨ cl37.slots.size ≤ ((17 : Int32)).toNatClampNeg) := inb_of Sz37 ⟨by decide, by decide⟩
  obtain ⟨T37, h37, X37, e37, W37, st37⟩ := stR X36 hx hZ e36 Ar37 (j := (17 : Int32)) hin37 rfl (Sto.ofV Ar37 q37 Ov1 (Ins.self (X_NEGATE.ext O35))) (g := (mkF m 124 #[.val (.int p0), .unset, .unset, .unset] [(.ref a_NEGATE), (.int (17 : Int32)), (.ref b1), (.ref b1)])) rfl rfl (hb hby at_124)
  have V37 : Arv Z h37 b1 k1 (.object "com/example/conformal/conformal/Expression$Operator") (18 : Int32) [(.ref a_INTEGER), (.ref a_STRING), (.ref a_TRUE), (.ref a_FALSE), (.ref a_NAME), (.ref a_CALL), (.ref a_OR), (.ref a_AND), (.ref a_NOT), (.ref a_EQUAL), (.ref a_NOT_EQUAL), (.ref a_LESS), (.ref a_LESS_EQUAL), (.ref a_GREATER), (.ref a_GREATER_EQUAL), (.ref a_ADD), (.ref a_SUBTRACT), (.ref a_NEGATE)] .null := Arv.set Ar37 q37 Sz37 Nz37 Hz37 Gz37 rfl W37 17 rfl (Nat.le_of_ble_eq_true rfl)
  have K37 : Keep h0 h37 [] := K35.wr W37 (Or.inr sz_b1)
  have N37 := Fr.snoc X37 N35 ge_b1
  have O37 := own_extW O35 W37 ge_b1
  refine own_go (T37.setTop (mkF m 125 #[.val (.int p0), .unset, .unset, .unset] [(.ref b1)])) (fun t_ k_ => st37 _ k_) ?_
  refine own_go (T37.setTop (mkF m 126 #[.val (.int p0), .val (.ref b1), .unset, .unset] [])) (fun t_ k_ => XS.astoreN X37.here hx rfl (hb hby at_125) rfl rfl (l' := #[.val (.int p0), .val (.ref b1), .unset, .unset]) rfl k_) ?_
  refine own_go (T37.setTop (mkF m 127 #[.val (.int p0), .val (.ref b1), .unset, .unset] [(.ref b1)])) (fun t_ k_ => XS.aloadN X37.here hx rfl (hb hby at_126) rfl rfl k_) ?_
  refine own_go (T37.setTop (mkF m 128 #[.val (.int p0), .val (.ref b1), .unset, .unset] [(.int p0), (.ref b1)])) (fun t_ k_ => XS.iloadN X37.here hx rfl (hb hby at_127) rfl k_) ?_
  refine own_go (T37.setTop (mkF m 130 #[.val (.int p0), .val (.ref b1), .unset, .unset] [(.int (2147483647 : Int32)), (.int p0), (.ref b1)])) (fun t_ k_ => X37.ldcInt hx hown (mvT hZ (hw _ (List.mem_of_getElem? (i := 40) rfl))) (g := (mkF m 128 #[.val (.int p0), .val (.ref b1), .unset, .unset] [(.int p0), (.ref b1)])) rfl (hb hby at_128) _ k_) ?_
  refine own_go (T37.setTop (mkF m 131 #[.val (.int p0), .val (.ref b1), .unset, .unset] [(.int (p0 &&& (2147483647 : Int32))), (.ref b1)])) (fun t_ k_ => XS.iand X37.here hx rfl (hb hby at_130) rfl k_) ?_
  refine own_go (T37.setTop (mkF m 133 #[.val (.int p0), .val (.ref b1), .unset, .unset] [(.int (18 : Int32)), (.int (p0 &&& (2147483647 : Int32))), (.ref b1)])) (fun t_ k_ => XS.bipush X37.here hx rfl (hb hby at_131) k_) ?_
  refine own_go (T37.setTop (mkF m 134 #[.val (.int p0), .val (.ref b1), .unset, .unset] [(.int ((p0 &&& (2147483647 : Int32)) % (18 : Int32))), (.ref b1)])) (fun t_ k_ => Jvm.RoadKit.iremM X37 hx rfl (hb hby at_133) rfl (by decide) k_) ?_
  obtain ⟨hi0, hi1⟩ := own_mod p0 18 (by decide)
  obtain ⟨i, hi⟩ : ∃ z, z = ((p0 &&& (2147483647 : Int32)) % (18 : Int32)) := ⟨_, rfl⟩
  rw [← hi] at hi0 hi1
  rw [← hi]
  have ho := own_pick_ord i w hi0 hi1
  have hpr := own_pick_prec i w hi0 hi1
  have hli := own_list a_INTEGER a_STRING a_TRUE a_FALSE a_NAME a_CALL a_OR a_AND a_NOT a_EQUAL a_NOT_EQUAL a_LESS a_LESS_EQUAL a_GREATER a_GREATER_EQUAL a_ADD a_SUBTRACT a_NEGATE i hi0 hi1
  have hxo := own_pick_exa i w
  obtain ⟨o, hoo⟩ : ∃ z, z = own_pick i a_INTEGER a_STRING a_TRUE a_FALSE a_NAME a_CALL a_OR a_AND a_NOT a_EQUAL a_NOT_EQUAL a_LESS a_LESS_EQUAL a_GREATER a_GREATER_EQUAL a_ADD a_SUBTRACT a_NEGATE := ⟨_, rfl⟩
  rw [← hoo] at ho hxo hpr hli
  have hi18 : ¬ i < 0 ∧ i < 18 := ⟨fun q => by rw [Int32.lt_iff_toInt_lt] at q; rw [show (0 : Int32).toInt = 0 from by decide] at q; omega, by rw [Int32.lt_iff_toInt_lt]; exact hi1⟩
  obtain ⟨cl38, Ar38, q38, Sz38, Nz38, Hz38, Gz38⟩ := V37
  have hin38 : ¬ (i < 0 ∨ cl38.slots.size ≤ (i).toNatClampNeg) := inb_of Sz38 hi18
  have hat38 : cl38.slots[(i).toNatClampNeg]? = some (.ref o) := Hz38.at hin38 hli
  refine own_go (T37.setTop (mkF m 135 #[.val (.int p0), .val (.ref b1), .unset, .unset] [(.ref o)])) (fun t_ k_ => X37.aaload hx (j := i) (v := (.ref o)) (by rw [e37]; exact Ar38.1) (State.isArrayOf_alike hZ.alike Ar38.2.1) rfl Ar38.2.2 hin38 hat38 (g := (mkF m 134 #[.val (.int p0), .val (.ref b1), .unset, .unset] [(.int i), (.ref b1)])) rfl rfl (hb hby at_134) _ k_) ?_
  refine own_go (T37.setTop (mkF m 136 #[.val (.int p0), .val (.ref b1), .val (.ref o), .unset] [])) (fun t_ k_ => XS.astoreN X37.here hx rfl (hb hby at_135) rfl rfl (l' := #[.val (.int p0), .val (.ref b1), .val (.ref o), .unset]) rfl k_) ?_
  refine own_go (T37.setTop (mkF m 137 #[.val (.int p0), .val (.ref b1), .val (.ref o), .unset] [(.ref o)])) (fun t_ k_ => XS.aloadN X37.here hx rfl (hb hby at_136) rfl rfl k_) ?_
  obtain ⟨T39, X39, e39, st39⟩ := getS2 X37 hx hZ hown (host := "") (Or.inl (hw _ (List.mem_of_getElem? (i := 22) rfl))) Via.refl e37 (S_EQUAL.ext O37) (g := (mkF m 137 #[.val (.int p0), .val (.ref b1), .val (.ref o), .unset] [(.ref o)])) rfl (hb hby at_137)
  refine own_go (T39.setTop (mkF m 140 #[.val (.int p0), .val (.ref b1), .val (.ref o), .unset] [(.ref a_EQUAL), (.ref o)])) (fun t_ k_ => st39 _ k_) ?_
  by_cases ha140_40 : o = a_EQUAL
  ·
    refine own_go (T39.setTop (mkF m 178 #[.val (.int p0), .val (.ref b1), .val (.ref o), .unset] [])) (fun t_ k_ => Jvm.RoadKit.acmp (g := (mkF m 140 #[.val (.int p0), .val (.ref b1), .val (.ref o), .unset] [(.ref a_EQUAL), (.ref o)])) X39 hx rfl rfl rfl (pc0 := 140) (pc' := 178) (same := true) rfl (hb hby at_140) rfl (decide_eq_true (congrArg Value.ref ha140_40)) (by decide) (by decide) k_) ?_
    refine own_go (T39.setTop (mkF m 179 #[.val (.int p0), .val (.ref b1), .val (.ref o), .unset] [(.int (1 : Int32))])) (fun t_ k_ => XS.iconst X39.here hx rfl (hb hby at_178) k_) ?_
    refine own_go (T39.setTop (mkF m 183 #[.val (.int p0), .val (.ref b1), .val (.ref o), .unset] [(.int (1 : Int32))])) (fun t_ k_ => XS.goto X39.here hx rfl (pc0 := 179) (pc' := 183) rfl (hb hby at_179) (by decide) (by decide) k_) ?_
    refine own_go (T39.setTop (mkF m 184 #[.val (.int p0), .val (.ref b1), .val (.ref o), .val (.int (1 : Int32))] [])) (fun t_ k_ => XS.istoreN X39.here hx rfl (hb hby at_183) rfl (l' := #[.val (.int p0), .val (.ref b1), .val (.ref o), .val (.int (1 : Int32))]) rfl k_) ?_
    refine own_go (T39.setTop (mkF m 185 #[.val (.int p0), .val (.ref b1), .val (.ref o), .val (.int (1 : Int32))] [(.ref o)])) (fun t_ k_ => XS.aloadN X39.here hx rfl (hb hby at_184) rfl rfl k_) ?_
    obtain ⟨cq41, kq41, q41a, q41b, q41c⟩ := isOf hZ e39 (hxo.ext O37)
    obtain ⟨_, _, ⟨T41, Lu41, ku41, nu41⟩, -, X41, ⟨Lc41, hQ41, lu41, yu41, zu41⟩, st41⟩ := X39.virtualBack hx (y := (⟨"com/example/conformal/conformal/Expression$Operator", "isComparison", "()Z"⟩ : MethodName)) (z := (⟨"com/example/conformal/conformal/Expression$Operator", "isComparison", "()Z"⟩ : MethodName)) hown (mvT hZ (hw _ (List.mem_of_getElem? (i := 41) rfl))) (mvT hZ (hw _ (List.mem_of_getElem? (i := 42) rfl))) (notFace_of_selects (args := #[]) (mvT hZ (hw _ (List.mem_of_getElem? (i := 44) rfl)))) (mvT hZ (hw _ (List.mem_of_getElem? (i := 44) rfl))) (mvT hZ (hw _ (List.mem_of_getElem? (i := 43) rfl))) (by decide) (backOf (W := 0) (rm_ic l Z a0 hw [] (o) (own_prec i) (a_INTEGER) (a_STRING) (a_TRUE) (a_FALSE) (a_NAME) (a_CALL) (a_OR) (a_AND) (a_NOT) (a_EQUAL) (a_NOT_EQUAL) (a_LESS) (a_LESS_EQUAL) (a_GREATER) (a_GREATER_EQUAL) (a_ADD) (a_SUBTRACT) (a_NEGATE) h37 O37 w hpr) hZ (hw _ (List.mem_of_getElem? (i := 45) rfl)) (hw _ (List.mem_of_getElem? (i := 3) rfl)) (by decide) (by decide)) q41a q41c (g := (mkF m 185 #[.val (.int p0), .val (.ref b1), .val (.ref o), .val (.int (1 : Int32))] [(.ref o)])) rfl (by rw [hml]; rfl) (Steps.refl _) (argsL := []) (rest := []) (lenOf own_pd0 rfl) rfl (by show 2 * 0 + _ ≤ _; exact Nat.le_of_eq rfl) (hb hby at_185) (fun _ _ => ⟨rfl, e39, (by decide : 1 + 0 ≤ _), (by decide : 18 + 0 ≤ _)⟩)
    dsimp only [Pt.U, Pt.locs, Pt.cells, Pt.slots] at X41 lu41 yu41 zu41 st41 hQ41
    subst lu41 yu41 zu41
    obtain ⟨rfl, N41q, e41⟩ := hQ41
    have N41 := Fr.app N37 N41q
    refine own_go (T41.setTop (mkF m 188 #[.val (.int p0), .val (.ref b1), .val (.ref o), .val (.int (1 : Int32))] [(.int (if own_prec i = 4 then 1 else 0))])) (fun t_ k_ => st41.trans k_) ?_
    refine own_go (T41.setTop (mkF m 189 #[.val (.int p0), .val (.ref b1), .val (.ref o), .val (.int (1 : Int32))] [(.int (1 : Int32)), (.int (if own_prec i = 4 then 1 else 0))])) (fun t_ k_ => XS.iloadN X41.here hx rfl (hb hby at_188) rfl k_) ?_
    have hk : i = 9 := Decidable.byContradiction fun r => Fld.ne ho F_EQUAL_ordinal (by simpa using r) ha140_40
    have hfin : (if own_prec i = 4 then 1 else 0) = (1 : Int32) := by rw [hk] <;> rfl
    refine own_go (T41.setTop (mkF m 192 #[.val (.int p0), .val (.ref b1), .val (.ref o), .val (.int (1 : Int32))] [])) (fun t_ k_ => XS.icmpNo X41.here hx rfl (hb hby at_189) rfl (teq hfin).2 k_) ?_
    refine own_go (T41.setTop (mkF m 193 #[.val (.int p0), .val (.ref b1), .val (.ref o), .val (.int (1 : Int32))] [(.int (1 : Int32))])) (fun t_ k_ => XS.iconst X41.here hx rfl (hb hby at_192) k_) ?_
    refine own_go (T41.setTop (mkF m 197 #[.val (.int p0), .val (.ref b1), .val (.ref o), .val (.int (1 : Int32))] [(.int (1 : Int32))])) (fun t_ k_ => XS.goto X41.here hx rfl (pc0 := 193) (pc' := 197) rfl (hb hby at_193) (by decide) (by decide) k_) ?_
    obtain ⟨fs, hr, hrun, hended, hW, hsame⟩ := X41.leave (v := some (.int (nar .boolean (1 : Int32)))) (fun h => by rw [Bd.returns] at h; cases h)
    refine ⟨_, _, retN X41 hx (t := .boolean) Bd.returns (by simp) (hb hby at_197) hr, hrun, hended, _, _, rfl, ?_, ⟨_, rfl⟩, hW, hsame.mono (by decide) (by decide)⟩
    show Q_law Z p0 a_INTEGER a_STRING a_TRUE a_FALSE a_NAME a_CALL a_OR a_AND a_NOT a_EQUAL a_NOT_EQUAL a_LESS a_LESS_EQUAL a_GREATER a_GREATER_EQUAL a_ADD a_SUBTRACT a_NEGATE h0 _ T41.heap _
    exact ⟨rfl, N41, trivial⟩
  ·
    refine own_go (T39.setTop (mkF m 143 #[.val (.int p0), .val (.ref b1), .val (.ref o), .unset] [])) (fun t_ k_ => Jvm.RoadKit.acmp (g := (mkF m 140 #[.val (.int p0), .val (.ref b1), .val (.ref o), .unset] [(.ref a_EQUAL), (.ref o)])) X39 hx rfl rfl rfl (pc0 := 140) (pc' := 143) (same := false) rfl (hb hby at_140) rfl (decide_eq_false fun q => ha140_40 (Value.ref.inj q)) (by decide) (by decide) k_) ?_
    refine own_go (T39.setTop (mkF m 144 #[.val (.int p0), .val (.ref b1), .val (.ref o), .unset] [(.ref o)])) (fun t_ k_ => XS.aloadN X39.here hx rfl (hb hby at_143) rfl rfl k_) ?_
    obtain ⟨T42, X42, e42, st42⟩ := getS2 X39 hx hZ hown (host := "") (Or.inl (hw _ (List.mem_of_getElem? (i := 24) rfl))) Via.refl e39 (S_NOT_EQUAL.ext O37) (g := (mkF m 144 #[.val (.int p0), .val (.ref b1), .val (.ref o), .unset] [(.ref o)])) rfl (hb hby at_144)
    refine own_go (T42.setTop (mkF m 147 #[.val (.int p0), .val (.ref b1), .val (.ref o), .unset] [(.ref a_NOT_EQUAL), (.ref o)])) (fun t_ k_ => st42 _ k_) ?_
    by_cases ha147_43 : o = a_NOT_EQUAL
    ·
      refine own_go (T42.setTop (mkF m 178 #[.val (.int p0), .val (.ref b1), .val (.ref o), .unset] [])) (fun t_ k_ => Jvm.RoadKit.acmp (g := (mkF m 147 #[.val (.int p0), .val (.ref b1), .val (.ref o), .unset] [(.ref a_NOT_EQUAL), (.ref o)])) X42 hx rfl rfl rfl (pc0 := 147) (pc' := 178) (same := true) rfl (hb hby at_147) rfl (decide_eq_true (congrArg Value.ref ha147_43)) (by decide) (by decide) k_) ?_
      refine own_go (T42.setTop (mkF m 179 #[.val (.int p0), .val (.ref b1), .val (.ref o), .unset] [(.int (1 : Int32))])) (fun t_ k_ => XS.iconst X42.here hx rfl (hb hby at_178) k_) ?_
      refine own_go (T42.setTop (mkF m 183 #[.val (.int p0), .val (.ref b1), .val (.ref o), .unset] [(.int (1 : Int32))])) (fun t_ k_ => XS.goto X42.here hx rfl (pc0 := 179) (pc' := 183) rfl (hb hby at_179) (by decide) (by decide) k_) ?_
      refine own_go (T42.setTop (mkF m 184 #[.val (.int p0), .val (.ref b1), .val (.ref o), .val (.int (1 : Int32))] [])) (fun t_ k_ => XS.istoreN X42.here hx rfl (hb hby at_183) rfl (l' := #[.val (.int p0), .val (.ref b1), .val (.ref o), .val (.int (1 : Int32))]) rfl k_) ?_
      refine own_go (T42.setTop (mkF m 185 #[.val (.int p0), .val (.ref b1), .val (.ref o), .val (.int (1 : Int32))] [(.ref o)])) (fun t_ k_ => XS.aloadN X42.here hx rfl (hb hby at_184) rfl rfl k_) ?_
      obtain ⟨cq44, kq44, q44a, q44b, q44c⟩ := isOf hZ e42 (hxo.ext O37)
      obtain ⟨_, _, ⟨T44, Lu44, ku44, nu44⟩, -, X44, ⟨Lc44, hQ44, lu44, yu44, zu44⟩, st44⟩ := X42.virtualBack hx (y := (⟨"com/example/conformal/conformal/Expression$Operator", "isComparison", "()Z"⟩ : MethodName)) (z := (⟨"com/example/conformal/conformal/Expression$Operator", "isComparison", "()Z"⟩ : MethodName)) hown (mvT hZ (hw _ (List.mem_of_getElem? (i := 41) rfl))) (mvT hZ (hw _ (List.mem_of_getElem? (i := 42) rfl))) (notFace_of_selects (args := #[]) (mvT hZ (hw _ (List.mem_of_getElem? (i := 44) rfl)))) (mvT hZ (hw _ (List.mem_of_getElem? (i := 44) rfl))) (mvT hZ (hw _ (List.mem_of_getElem? (i := 43) rfl))) (by decide) (backOf (W := 0) (rm_ic l Z a0 hw [] (o) (own_prec i) (a_INTEGER) (a_STRING) (a_TRUE) (a_FALSE) (a_NAME) (a_CALL) (a_OR) (a_AND) (a_NOT) (a_EQUAL) (a_NOT_EQUAL) (a_LESS) (a_LESS_EQUAL) (a_GREATER) (a_GREATER_EQUAL) (a_ADD) (a_SUBTRACT) (a_NEGATE) h37 O37 w hpr) hZ (hw _ (List.mem_of_getElem? (i := 45) rfl)) (hw _ (List.mem_of_getElem? (i := 3) rfl)) (by decide) (by decide)) q44a q44c (g := (mkF m 185 #[.val (.int p0), .val (.ref b1), .val (.ref o), .val (.int (1 : Int32))] [(.ref o)])) rfl (by rw [hml]; rfl) (Steps.refl _) (argsL := []) (rest := []) (lenOf own_pd0 rfl) rfl (by show 2 * 0 + _ ≤ _; exact Nat.le_of_eq rfl) (hb hby at_185) (fun _ _ => ⟨rfl, e42, (by decide : 1 + 0 ≤ _), (by decide : 18 + 0 ≤ _)⟩)
      dsimp only [Pt.U, Pt.locs, Pt.cells, Pt.slots] at X44 lu44 yu44 zu44 st44 hQ44
      subst lu44 yu44 zu44
      obtain ⟨rfl, N44q, e44⟩ := hQ44
      have N44 := Fr.app N37 N44q
      refine own_go (T44.setTop (mkF m 188 #[.val (.int p0), .val (.ref b1), .val (.ref o), .val (.int (1 : Int32))] [(.int (if own_prec i = 4 then 1 else 0))])) (fun t_ k_ => st44.trans k_) ?_
      refine own_go (T44.setTop (mkF m 189 #[.val (.int p0), .val (.ref b1), .val (.ref o), .val (.int (1 : Int32))] [(.int (1 : Int32)), (.int (if own_prec i = 4 then 1 else 0))])) (fun t_ k_ => XS.iloadN X44.here hx rfl (hb hby at_188) rfl k_) ?_
      have hk : i = 10 := Decidable.byContradiction fun r => Fld.ne ho F_NOT_EQUAL_ordinal (by simpa using r) ha147_43
      have hfin : (if own_prec i = 4 then 1 else 0) = (1 : Int32) := by rw [hk] <;> rfl
      refine own_go (T44.setTop (mkF m 192 #[.val (.int p0), .val (.ref b1), .val (.ref o), .val (.int (1 : Int32))] [])) (fun t_ k_ => XS.icmpNo X44.here hx rfl (hb hby at_189) rfl (teq hfin).2 k_) ?_
      refine own_go (T44.setTop (mkF m 193 #[.val (.int p0), .val (.ref b1), .val (.ref o), .val (.int (1 : Int32))] [(.int (1 : Int32))])) (fun t_ k_ => XS.iconst X44.here hx rfl (hb hby at_192) k_) ?_
      refine own_go (T44.setTop (mkF m 197 #[.val (.int p0), .val (.ref b1), .val (.ref o), .val (.int (1 : Int32))] [(.int (1 : Int32))])) (fun t_ k_ => XS.goto X44.here hx rfl (pc0 := 193) (pc' := 197) rfl (hb hby at_193) (by decide) (by decide) k_) ?_
      obtain ⟨fs, hr, hrun, hended, hW, hsame⟩ := X44.leave (v := some (.int (nar .boolean (1 : Int32)))) (fun h => by rw [Bd.returns] at h; cases h)
      refine ⟨_, _, retN X44 hx (t := .boolean) Bd.returns (by simp) (hb hby at_197) hr, hrun, hended, _, _, rfl, ?_, ⟨_, rfl⟩, hW, hsame.mono (by decide) (by decide)⟩
      show Q_law Z p0 a_INTEGER a_STRING a_TRUE a_FALSE a_NAME a_CALL a_OR a_AND a_NOT a_EQUAL a_NOT_EQUAL a_LESS a_LESS_EQUAL a_GREATER a_GREATER_EQUAL a_ADD a_SUBTRACT a_NEGATE h0 _ T44.heap _
      exact ⟨rfl, N44, trivial⟩
    ·
      refine own_go (T42.setTop (mkF m 150 #[.val (.int p0), .val (.ref b1), .val (.ref o), .unset] [])) (fun t_ k_ => Jvm.RoadKit.acmp (g := (mkF m 147 #[.val (.int p0), .val (.ref b1), .val (.ref o), .unset] [(.ref a_NOT_EQUAL), (.ref o)])) X42 hx rfl rfl rfl (pc0 := 147) (pc' := 150) (same := false) rfl (hb hby at_147) rfl (decide_eq_false fun q => ha147_43 (Value.ref.inj q)) (by decide) (by decide) k_) ?_
      refine own_go (T42.setTop (mkF m 151 #[.val (.int p0), .val (.ref b1), .val (.ref o), .unset] [(.ref o)])) (fun t_ k_ => XS.aloadN X42.here hx rfl (hb hby at_150) rfl rfl k_) ?_
      obtain ⟨T45, X45, e45, st45⟩ := getS2 X42 hx hZ hown (host := "") (Or.inl (hw _ (List.mem_of_getElem? (i := 26) rfl))) Via.refl e42 (S_LESS.ext O37) (g := (mkF m 151 #[.val (.int p0), .val (.ref b1), .val (.ref o), .unset] [(.ref o)])) rfl (hb hby at_151)
      refine own_go (T45.setTop (mkF m 154 #[.val (.int p0), .val (.ref b1), .val (.ref o), .unset] [(.ref a_LESS), (.ref o)])) (fun t_ k_ => st45 _ k_) ?_
      by_cases ha154_46 : o = a_LESS
      ·
        refine own_go (T45.setTop (mkF m 178 #[.val (.int p0), .val (.ref b1), .val (.ref o), .unset] [])) (fun t_ k_ => Jvm.RoadKit.acmp (g := (mkF m 154 #[.val (.int p0), .val (.ref b1), .val (.ref o), .unset] [(.ref a_LESS), (.ref o)])) X45 hx rfl rfl rfl (pc0 := 154) (pc' := 178) (same := true) rfl (hb hby at_154) rfl (decide_eq_true (congrArg Value.ref ha154_46)) (by decide) (by decide) k_) ?_
        refine own_go (T45.setTop (mkF m 179 #[.val (.int p0), .val (.ref b1), .val (.ref o), .unset] [(.int (1 : Int32))])) (fun t_ k_ => XS.iconst X45.here hx rfl (hb hby at_178) k_) ?_
        refine own_go (T45.setTop (mkF m 183 #[.val (.int p0), .val (.ref b1), .val (.ref o), .unset] [(.int (1 : Int32))])) (fun t_ k_ => XS.goto X45.here hx rfl (pc0 := 179) (pc' := 183) rfl (hb hby at_179) (by decide) (by decide) k_) ?_
        refine own_go (T45.setTop (mkF m 184 #[.val (.int p0), .val (.ref b1), .val (.ref o), .val (.int (1 : Int32))] [])) (fun t_ k_ => XS.istoreN X45.here hx rfl (hb hby at_183) rfl (l' := #[.val (.int p0), .val (.ref b1), .val (.ref o), .val (.int (1 : Int32))]) rfl k_) ?_
        refine own_go (T45.setTop (mkF m 185 #[.val (.int p0), .val (.ref b1), .val (.ref o), .val (.int (1 : Int32))] [(.ref o)])) (fun t_ k_ => XS.aloadN X45.here hx rfl (hb hby at_184) rfl rfl k_) ?_
        obtain ⟨cq47, kq47, q47a, q47b, q47c⟩ := isOf hZ e45 (hxo.ext O37)
        obtain ⟨_, _, ⟨T47, Lu47, ku47, nu47⟩, -, X47, ⟨Lc47, hQ47, lu47, yu47, zu47⟩, st47⟩ := X45.virtualBack hx (y := (⟨"com/example/conformal/conformal/Expression$Operator", "isComparison", "()Z"⟩ : MethodName)) (z := (⟨"com/example/conformal/conformal/Expression$Operator", "isComparison", "()Z"⟩ : MethodName)) hown (mvT hZ (hw _ (List.mem_of_getElem? (i := 41) rfl))) (mvT hZ (hw _ (List.mem_of_getElem? (i := 42) rfl))) (notFace_of_selects (args := #[]) (mvT hZ (hw _ (List.mem_of_getElem? (i := 44) rfl)))) (mvT hZ (hw _ (List.mem_of_getElem? (i := 44) rfl))) (mvT hZ (hw _ (List.mem_of_getElem? (i := 43) rfl))) (by decide) (backOf (W := 0) (rm_ic l Z a0 hw [] (o) (own_prec i) (a_INTEGER) (a_STRING) (a_TRUE) (a_FALSE) (a_NAME) (a_CALL) (a_OR) (a_AND) (a_NOT) (a_EQUAL) (a_NOT_EQUAL) (a_LESS) (a_LESS_EQUAL) (a_GREATER) (a_GREATER_EQUAL) (a_ADD) (a_SUBTRACT) (a_NEGATE) h37 O37 w hpr) hZ (hw _ (List.mem_of_getElem? (i := 45) rfl)) (hw _ (List.mem_of_getElem? (i := 3) rfl)) (by decide) (by decide)) q47a q47c (g := (mkF m 185 #[.val (.int p0), .val (.ref b1), .val (.ref o), .val (.int (1 : Int32))] [(.ref o)])) rfl (by rw [hml]; rfl) (Steps.refl _) (argsL := []) (rest := []) (lenOf own_pd0 rfl) rfl (by show 2 * 0 + _ ≤ _; exact Nat.le_of_eq rfl) (hb hby at_185) (fun _ _ => ⟨rfl, e45, (by decide : 1 + 0 ≤ _), (by decide : 18 + 0 ≤ _)⟩)
        dsimp only [Pt.U, Pt.locs, Pt.cells, Pt.slots] at X47 lu47 yu47 zu47 st47 hQ47
        subst lu47 yu47 zu47
        obtain ⟨rfl, N47q, e47⟩ := hQ47
        have N47 := Fr.app N37 N47q
        refine own_go (T47.setTop (mkF m 188 #[.val (.int p0), .val (.ref b1), .val (.ref o), .val (.int (1 : Int32))] [(.int (if own_prec i = 4 then 1 else 0))])) (fun t_ k_ => st47.trans k_) ?_
        refine own_go (T47.setTop (mkF m 189 #[.val (.int p0), .val (.ref b1), .val (.ref o), .val (.int (1 : Int32))] [(.int (1 : Int32)), (.int (if own_prec i = 4 then 1 else 0))])) (fun t_ k_ => XS.iloadN X47.here hx rfl (hb hby at_188) rfl k_) ?_
        have hk : i = 11 := Decidable.byContradiction fun r => Fld.ne ho F_LESS_ordinal (by simpa using r) ha154_46
        have hfin : (if own_prec i = 4 then 1 else 0) = (1 : Int32) := by rw [hk] <;> rfl
        refine own_go (T47.setTop (mkF m 192 #[.val (.int p0), .val (.ref b1), .val (.ref o), .val (.int (1 : Int32))] [])) (fun t_ k_ => XS.icmpNo X47.here hx rfl (hb hby at_189) rfl (teq hfin).2 k_) ?_
        refine own_go (T47.setTop (mkF m 193 #[.val (.int p0), .val (.ref b1), .val (.ref o), .val (.int (1 : Int32))] [(.int (1 : Int32))])) (fun t_ k_ => XS.iconst X47.here hx rfl (hb hby at_192) k_) ?_
        refine own_go (T47.setTop (mkF m 197 #[.val (.int p0), .val (.ref b1), .val (.ref o), .val (.int (1 : Int32))] [(.int (1 : Int32))])) (fun t_ k_ => XS.goto X47.here hx rfl (pc0 := 193) (pc' := 197) rfl (hb hby at_193) (by decide) (by decide) k_) ?_
        obtain ⟨fs, hr, hrun, hended, hW, hsame⟩ := X47.leave (v := some (.int (nar .boolean (1 : Int32)))) (fun h => by rw [Bd.returns] at h; cases h)
        refine ⟨_, _, retN X47 hx (t := .boolean) Bd.returns (by simp) (hb hby at_197) hr, hrun, hended, _, _, rfl, ?_, ⟨_, rfl⟩, hW, hsame.mono (by decide) (by decide)⟩
        show Q_law Z p0 a_INTEGER a_STRING a_TRUE a_FALSE a_NAME a_CALL a_OR a_AND a_NOT a_EQUAL a_NOT_EQUAL a_LESS a_LESS_EQUAL a_GREATER a_GREATER_EQUAL a_ADD a_SUBTRACT a_NEGATE h0 _ T47.heap _
        exact ⟨rfl, N47, trivial⟩
      ·
        refine own_go (T45.setTop (mkF m 157 #[.val (.int p0), .val (.ref b1), .val (.ref o), .unset] [])) (fun t_ k_ => Jvm.RoadKit.acmp (g := (mkF m 154 #[.val (.int p0), .val (.ref b1), .val (.ref o), .unset] [(.ref a_LESS), (.ref o)])) X45 hx rfl rfl rfl (pc0 := 154) (pc' := 157) (same := false) rfl (hb hby at_154) rfl (decide_eq_false fun q => ha154_46 (Value.ref.inj q)) (by decide) (by decide) k_) ?_
        refine own_go (T45.setTop (mkF m 158 #[.val (.int p0), .val (.ref b1), .val (.ref o), .unset] [(.ref o)])) (fun t_ k_ => XS.aloadN X45.here hx rfl (hb hby at_157) rfl rfl k_) ?_
        obtain ⟨T48, X48, e48, st48⟩ := getS2 X45 hx hZ hown (host := "") (Or.inl (hw _ (List.mem_of_getElem? (i := 28) rfl))) Via.refl e45 (S_LESS_EQUAL.ext O37) (g := (mkF m 158 #[.val (.int p0), .val (.ref b1), .val (.ref o), .unset] [(.ref o)])) rfl (hb hby at_158)
        refine own_go (T48.setTop (mkF m 161 #[.val (.int p0), .val (.ref b1), .val (.ref o), .unset] [(.ref a_LESS_EQUAL), (.ref o)])) (fun t_ k_ => st48 _ k_) ?_
        by_cases ha161_49 : o = a_LESS_EQUAL
        ·
          refine own_go (T48.setTop (mkF m 178 #[.val (.int p0), .val (.ref b1), .val (.ref o), .unset] [])) (fun t_ k_ => Jvm.RoadKit.acmp (g := (mkF m 161 #[.val (.int p0), .val (.ref b1), .val (.ref o), .unset] [(.ref a_LESS_EQUAL), (.ref o)])) X48 hx rfl rfl rfl (pc0 := 161) (pc' := 178) (same := true) rfl (hb hby at_161) rfl (decide_eq_true (congrArg Value.ref ha161_49)) (by decide) (by decide) k_) ?_
          refine own_go (T48.setTop (mkF m 179 #[.val (.int p0), .val (.ref b1), .val (.ref o), .unset] [(.int (1 : Int32))])) (fun t_ k_ => XS.iconst X48.here hx rfl (hb hby at_178) k_) ?_
          refine own_go (T48.setTop (mkF m 183 #[.val (.int p0), .val (.ref b1), .val (.ref o), .unset] [(.int (1 : Int32))])) (fun t_ k_ => XS.goto X48.here hx rfl (pc0 := 179) (pc' := 183) rfl (hb hby at_179) (by decide) (by decide) k_) ?_
          refine own_go (T48.setTop (mkF m 184 #[.val (.int p0), .val (.ref b1), .val (.ref o), .val (.int (1 : Int32))] [])) (fun t_ k_ => XS.istoreN X48.here hx rfl (hb hby at_183) rfl (l' := #[.val (.int p0), .val (.ref b1), .val (.ref o), .val (.int (1 : Int32))]) rfl k_) ?_
          refine own_go (T48.setTop (mkF m 185 #[.val (.int p0), .val (.ref b1), .val (.ref o), .val (.int (1 : Int32))] [(.ref o)])) (fun t_ k_ => XS.aloadN X48.here hx rfl (hb hby at_184) rfl rfl k_) ?_
          obtain ⟨cq50, kq50, q50a, q50b, q50c⟩ := isOf hZ e48 (hxo.ext O37)
          obtain ⟨_, _, ⟨T50, Lu50, ku50, nu50⟩, -, X50, ⟨Lc50, hQ50, lu50, yu50, zu50⟩, st50⟩ := X48.virtualBack hx (y := (⟨"com/example/conformal/conformal/Expression$Operator", "isComparison", "()Z"⟩ : MethodName)) (z := (⟨"com/example/conformal/conformal/Expression$Operator", "isComparison", "()Z"⟩ : MethodName)) hown (mvT hZ (hw _ (List.mem_of_getElem? (i := 41) rfl))) (mvT hZ (hw _ (List.mem_of_getElem? (i := 42) rfl))) (notFace_of_selects (args := #[]) (mvT hZ (hw _ (List.mem_of_getElem? (i := 44) rfl)))) (mvT hZ (hw _ (List.mem_of_getElem? (i := 44) rfl))) (mvT hZ (hw _ (List.mem_of_getElem? (i := 43) rfl))) (by decide) (backOf (W := 0) (rm_ic l Z a0 hw [] (o) (own_prec i) (a_INTEGER) (a_STRING) (a_TRUE) (a_FALSE) (a_NAME) (a_CALL) (a_OR) (a_AND) (a_NOT) (a_EQUAL) (a_NOT_EQUAL) (a_LESS) (a_LESS_EQUAL) (a_GREATER) (a_GREATER_EQUAL) (a_ADD) (a_SUBTRACT) (a_NEGATE) h37 O37 w hpr) hZ (hw _ (List.mem_of_getElem? (i := 45) rfl)) (hw _ (List.mem_of_getElem? (i := 3) rfl)) (by decide) (by decide)) q50a q50c (g := (mkF m 185 #[.val (.int p0), .val (.ref b1), .val (.ref o), .val (.int (1 : Int32))] [(.ref o)])) rfl (by rw [hml]; rfl) (Steps.refl _) (argsL := []) (rest := []) (lenOf own_pd0 rfl) rfl (by show 2 * 0 + _ ≤ _; exact Nat.le_of_eq rfl) (hb hby at_185) (fun _ _ => ⟨rfl, e48, (by decide : 1 + 0 ≤ _), (by decide : 18 + 0 ≤ _)⟩)
          dsimp only [Pt.U, Pt.locs, Pt.cells, Pt.slots] at X50 lu50 yu50 zu50 st50 hQ50
          subst lu50 yu50 zu50
          obtain ⟨rfl, N50q, e50⟩ := hQ50
          have N50 := Fr.app N37 N50q
          refine own_go (T50.setTop (mkF m 188 #[.val (.int p0), .val (.ref b1), .val (.ref o), .val (.int (1 : Int32))] [(.int (if own_prec i = 4 then 1 else 0))])) (fun t_ k_ => st50.trans k_) ?_
          refine own_go (T50.setTop (mkF m 189 #[.val (.int p0), .val (.ref b1), .val (.ref o), .val (.int (1 : Int32))] [(.int (1 : Int32)), (.int (if own_prec i = 4 then 1 else 0))])) (fun t_ k_ => XS.iloadN X50.here hx rfl (hb hby at_188) rfl k_) ?_
          have hk : i = 12 := Decidable.byContradiction fun r => Fld.ne ho F_LESS_EQUAL_ordinal (by simpa using r) ha161_49
          have hfin : (if own_prec i = 4 then 1 else 0) = (1 : Int32) := by rw [hk] <;> rfl
          refine own_go (T50.setTop (mkF m 192 #[.val (.int p0), .val (.ref b1), .val (.ref o), .val (.int (1 : Int32))] [])) (fun t_ k_ => XS.icmpNo X50.here hx rfl (hb hby at_189) rfl (teq hfin).2 k_) ?_
          refine own_go (T50.setTop (mkF m 193 #[.val (.int p0), .val (.ref b1), .val (.ref o), .val (.int (1 : Int32))] [(.int (1 : Int32))])) (fun t_ k_ => XS.iconst X50.here hx rfl (hb hby at_192) k_) ?_
          refine own_go (T50.setTop (mkF m 197 #[.val (.int p0), .val (.ref b1), .val (.ref o), .val (.int (1 : Int32))] [(.int (1 : Int32))])) (fun t_ k_ => XS.goto X50.here hx rfl (pc0 := 193) (pc' := 197) rfl (hb hby at_193) (by decide) (by decide) k_) ?_
          obtain ⟨fs, hr, hrun, hended, hW, hsame⟩ := X50.leave (v := some (.int (nar .boolean (1 : Int32)))) (fun h => by rw [Bd.returns] at h; cases h)
          refine ⟨_, _, retN X50 hx (t := .boolean) Bd.returns (by simp) (hb hby at_197) hr, hrun, hended, _, _, rfl, ?_, ⟨_, rfl⟩, hW, hsame.mono (by decide) (by decide)⟩
          show Q_law Z p0 a_INTEGER a_STRING a_TRUE a_FALSE a_NAME a_CALL a_OR a_AND a_NOT a_EQUAL a_NOT_EQUAL a_LESS a_LESS_EQUAL a_GREATER a_GREATER_EQUAL a_ADD a_SUBTRACT a_NEGATE h0 _ T50.heap _
          exact ⟨rfl, N50, trivial⟩
        ·
          refine own_go (T48.setTop (mkF m 164 #[.val (.int p0), .val (.ref b1), .val (.ref o), .unset] [])) (fun t_ k_ => Jvm.RoadKit.acmp (g := (mkF m 161 #[.val (.int p0), .val (.ref b1), .val (.ref o), .unset] [(.ref a_LESS_EQUAL), (.ref o)])) X48 hx rfl rfl rfl (pc0 := 161) (pc' := 164) (same := false) rfl (hb hby at_161) rfl (decide_eq_false fun q => ha161_49 (Value.ref.inj q)) (by decide) (by decide) k_) ?_
          refine own_go (T48.setTop (mkF m 165 #[.val (.int p0), .val (.ref b1), .val (.ref o), .unset] [(.ref o)])) (fun t_ k_ => XS.aloadN X48.here hx rfl (hb hby at_164) rfl rfl k_) ?_
          obtain ⟨T51, X51, e51, st51⟩ := getS2 X48 hx hZ hown (host := "") (Or.inl (hw _ (List.mem_of_getElem? (i := 30) rfl))) Via.refl e48 (S_GREATER.ext O37) (g := (mkF m 165 #[.val (.int p0), .val (.ref b1), .val (.ref o), .unset] [(.ref o)])) rfl (hb hby at_165)
          refine own_go (T51.setTop (mkF m 168 #[.val (.int p0), .val (.ref b1), .val (.ref o), .unset] [(.ref a_GREATER), (.ref o)])) (fun t_ k_ => st51 _ k_) ?_
          by_cases ha168_52 : o = a_GREATER
          ·
            refine own_go (T51.setTop (mkF m 178 #[.val (.int p0), .val (.ref b1), .val (.ref o), .unset] [])) (fun t_ k_ => Jvm.RoadKit.acmp (g := (mkF m 168 #[.val (.int p0), .val (.ref b1), .val (.ref o), .unset] [(.ref a_GREATER), (.ref o)])) X51 hx rfl rfl rfl (pc0 := 168) (pc' := 178) (same := true) rfl (hb hby at_168) rfl (decide_eq_true (congrArg Value.ref ha168_52)) (by decide) (by decide) k_) ?_
            refine own_go (T51.setTop (mkF m 179 #[.val (.int p0), .val (.ref b1), .val (.ref o), .unset] [(.int (1 : Int32))])) (fun t_ k_ => XS.iconst X51.here hx rfl (hb hby at_178) k_) ?_
            refine own_go (T51.setTop (mkF m 183 #[.val (.int p0), .val (.ref b1), .val (.ref o), .unset] [(.int (1 : Int32))])) (fun t_ k_ => XS.goto X51.here hx rfl (pc0 := 179) (pc' := 183) rfl (hb hby at_179) (by decide) (by decide) k_) ?_
            refine own_go (T51.setTop (mkF m 184 #[.val (.int p0), .val (.ref b1), .val (.ref o), .val (.int (1 : Int32))] [])) (fun t_ k_ => XS.istoreN X51.here hx rfl (hb hby at_183) rfl (l' := #[.val (.int p0), .val (.ref b1), .val (.ref o), .val (.int (1 : Int32))]) rfl k_) ?_
            refine own_go (T51.setTop (mkF m 185 #[.val (.int p0), .val (.ref b1), .val (.ref o), .val (.int (1 : Int32))] [(.ref o)])) (fun t_ k_ => XS.aloadN X51.here hx rfl (hb hby at_184) rfl rfl k_) ?_
            obtain ⟨cq53, kq53, q53a, q53b, q53c⟩ := isOf hZ e51 (hxo.ext O37)
            obtain ⟨_, _, ⟨T53, Lu53, ku53, nu53⟩, -, X53, ⟨Lc53, hQ53, lu53, yu53, zu53⟩, st53⟩ := X51.virtualBack hx (y := (⟨"com/example/conformal/conformal/Expression$Operator", "isComparison", "()Z"⟩ : MethodName)) (z := (⟨"com/example/conformal/conformal/Expression$Operator", "isComparison", "()Z"⟩ : MethodName)) hown (mvT hZ (hw _ (List.mem_of_getElem? (i := 41) rfl))) (mvT hZ (hw _ (List.mem_of_getElem? (i := 42) rfl))) (notFace_of_selects (args := #[]) (mvT hZ (hw _ (List.mem_of_getElem? (i := 44) rfl)))) (mvT hZ (hw _ (List.mem_of_getElem? (i := 44) rfl))) (mvT hZ (hw _ (List.mem_of_getElem? (i := 43) rfl))) (by decide) (backOf (W := 0) (rm_ic l Z a0 hw [] (o) (own_prec i) (a_INTEGER) (a_STRING) (a_TRUE) (a_FALSE) (a_NAME) (a_CALL) (a_OR) (a_AND) (a_NOT) (a_EQUAL) (a_NOT_EQUAL) (a_LESS) (a_LESS_EQUAL) (a_GREATER) (a_GREATER_EQUAL) (a_ADD) (a_SUBTRACT) (a_NEGATE) h37 O37 w hpr) hZ (hw _ (List.mem_of_getElem? (i := 45) rfl)) (hw _ (List.mem_of_getElem? (i := 3) rfl)) (by decide) (by decide)) q53a q53c (g := (mkF m 185 #[.val (.int p0), .val (.ref b1), .val (.ref o), .val (.int (1 : Int32))] [(.ref o)])) rfl (by rw [hml]; rfl) (Steps.refl _) (argsL := []) (rest := []) (lenOf own_pd0 rfl) rfl (by show 2 * 0 + _ ≤ _; exact Nat.le_of_eq rfl) (hb hby at_185) (fun _ _ => ⟨rfl, e51, (by decide : 1 + 0 ≤ _), (by decide : 18 + 0 ≤ _)⟩)
            dsimp only [Pt.U, Pt.locs, Pt.cells, Pt.slots] at X53 lu53 yu53 zu53 st53 hQ53
            subst lu53 yu53 zu53
            obtain ⟨rfl, N53q, e53⟩ := hQ53
            have N53 := Fr.app N37 N53q
            refine own_go (T53.setTop (mkF m 188 #[.val (.int p0), .val (.ref b1), .val (.ref o), .val (.int (1 : Int32))] [(.int (if own_prec i = 4 then 1 else 0))])) (fun t_ k_ => st53.trans k_) ?_
            refine own_go (T53.setTop (mkF m 189 #[.val (.int p0), .val (.ref b1), .val (.ref o), .val (.int (1 : Int32))] [(.int (1 : Int32)), (.int (if own_prec i = 4 then 1 else 0))])) (fun t_ k_ => XS.iloadN X53.here hx rfl (hb hby at_188) rfl k_) ?_
            have hk : i = 13 := Decidable.byContradiction fun r => Fld.ne ho F_GREATER_ordinal (by simpa using r) ha168_52
            have hfin : (if own_prec i = 4 then 1 else 0) = (1 : Int32) := by rw [hk] <;> rfl
            refine own_go (T53.setTop (mkF m 192 #[.val (.int p0), .val (.ref b1), .val (.ref o), .val (.int (1 : Int32))] [])) (fun t_ k_ => XS.icmpNo X53.here hx rfl (hb hby at_189) rfl (teq hfin).2 k_) ?_
            refine own_go (T53.setTop (mkF m 193 #[.val (.int p0), .val (.ref b1), .val (.ref o), .val (.int (1 : Int32))] [(.int (1 : Int32))])) (fun t_ k_ => XS.iconst X53.here hx rfl (hb hby at_192) k_) ?_
            refine own_go (T53.setTop (mkF m 197 #[.val (.int p0), .val (.ref b1), .val (.ref o), .val (.int (1 : Int32))] [(.int (1 : Int32))])) (fun t_ k_ => XS.goto X53.here hx rfl (pc0 := 193) (pc' := 197) rfl (hb hby at_193) (by decide) (by decide) k_) ?_
            obtain ⟨fs, hr, hrun, hended, hW, hsame⟩ := X53.leave (v := some (.int (nar .boolean (1 : Int32)))) (fun h => by rw [Bd.returns] at h; cases h)
            refine ⟨_, _, retN X53 hx (t := .boolean) Bd.returns (by simp) (hb hby at_197) hr, hrun, hended, _, _, rfl, ?_, ⟨_, rfl⟩, hW, hsame.mono (by decide) (by decide)⟩
            show Q_law Z p0 a_INTEGER a_STRING a_TRUE a_FALSE a_NAME a_CALL a_OR a_AND a_NOT a_EQUAL a_NOT_EQUAL a_LESS a_LESS_EQUAL a_GREATER a_GREATER_EQUAL a_ADD a_SUBTRACT a_NEGATE h0 _ T53.heap _
            exact ⟨rfl, N53, trivial⟩
          ·
            refine own_go (T51.setTop (mkF m 171 #[.val (.int p0), .val (.ref b1), .val (.ref o), .unset] [])) (fun t_ k_ => Jvm.RoadKit.acmp (g := (mkF m 168 #[.val (.int p0), .val (.ref b1), .val (.ref o), .unset] [(.ref a_GREATER), (.ref o)])) X51 hx rfl rfl rfl (pc0 := 168) (pc' := 171) (same := false) rfl (hb hby at_168) rfl (decide_eq_false fun q => ha168_52 (Value.ref.inj q)) (by decide) (by decide) k_) ?_
            refine own_go (T51.setTop (mkF m 172 #[.val (.int p0), .val (.ref b1), .val (.ref o), .unset] [(.ref o)])) (fun t_ k_ => XS.aloadN X51.here hx rfl (hb hby at_171) rfl rfl k_) ?_
            obtain ⟨T54, X54, e54, st54⟩ := getS2 X51 hx hZ hown (host := "") (Or.inl (hw _ (List.mem_of_getElem? (i := 32) rfl))) Via.refl e51 (S_GREATER_EQUAL.ext O37) (g := (mkF m 172 #[.val (.int p0), .val (.ref b1), .val (.ref o), .unset] [(.ref o)])) rfl (hb hby at_172)
            refine own_go (T54.setTop (mkF m 175 #[.val (.int p0), .val (.ref b1), .val (.ref o), .unset] [(.ref a_GREATER_EQUAL), (.ref o)])) (fun t_ k_ => st54 _ k_) ?_
            by_cases ha175_55 : o = a_GREATER_EQUAL
            ·
              refine own_go (T54.setTop (mkF m 178 #[.val (.int p0), .val (.ref b1), .val (.ref o), .unset] [])) (fun t_ k_ => Jvm.RoadKit.acmp (g := (mkF m 175 #[.val (.int p0), .val (.ref b1), .val (.ref o), .unset] [(.ref a_GREATER_EQUAL), (.ref o)])) X54 hx rfl rfl rfl (pc0 := 175) (pc' := 178) (same := true) rfl (hb hby at_175) rfl (decide_eq_true (congrArg Value.ref ha175_55)) (by decide) (by decide) k_) ?_
              refine own_go (T54.setTop (mkF m 179 #[.val (.int p0), .val (.ref b1), .val (.ref o), .unset] [(.int (1 : Int32))])) (fun t_ k_ => XS.iconst X54.here hx rfl (hb hby at_178) k_) ?_
              refine own_go (T54.setTop (mkF m 183 #[.val (.int p0), .val (.ref b1), .val (.ref o), .unset] [(.int (1 : Int32))])) (fun t_ k_ => XS.goto X54.here hx rfl (pc0 := 179) (pc' := 183) rfl (hb hby at_179) (by decide) (by decide) k_) ?_
              refine own_go (T54.setTop (mkF m 184 #[.val (.int p0), .val (.ref b1), .val (.ref o), .val (.int (1 : Int32))] [])) (fun t_ k_ => XS.istoreN X54.here hx rfl (hb hby at_183) rfl (l' := #[.val (.int p0), .val (.ref b1), .val (.ref o), .val (.int (1 : Int32))]) rfl k_) ?_
              refine own_go (T54.setTop (mkF m 185 #[.val (.int p0), .val (.ref b1), .val (.ref o), .val (.int (1 : Int32))] [(.ref o)])) (fun t_ k_ => XS.aloadN X54.here hx rfl (hb hby at_184) rfl rfl k_) ?_
              obtain ⟨cq56, kq56, q56a, q56b, q56c⟩ := isOf hZ e54 (hxo.ext O37)
              obtain ⟨_, _, ⟨T56, Lu56, ku56, nu56⟩, -, X56, ⟨Lc56, hQ56, lu56, yu56, zu56⟩, st56⟩ := X54.virtualBack hx (y := (⟨"com/example/conformal/conformal/Expression$Operator", "isComparison", "()Z"⟩ : MethodName)) (z := (⟨"com/example/conformal/conformal/Expression$Operator", "isComparison", "()Z"⟩ : MethodName)) hown (mvT hZ (hw _ (List.mem_of_getElem? (i := 41) rfl))) (mvT hZ (hw _ (List.mem_of_getElem? (i := 42) rfl))) (notFace_of_selects (args := #[]) (mvT hZ (hw _ (List.mem_of_getElem? (i := 44) rfl)))) (mvT hZ (hw _ (List.mem_of_getElem? (i := 44) rfl))) (mvT hZ (hw _ (List.mem_of_getElem? (i := 43) rfl))) (by decide) (backOf (W := 0) (rm_ic l Z a0 hw [] (o) (own_prec i) (a_INTEGER) (a_STRING) (a_TRUE) (a_FALSE) (a_NAME) (a_CALL) (a_OR) (a_AND) (a_NOT) (a_EQUAL) (a_NOT_EQUAL) (a_LESS) (a_LESS_EQUAL) (a_GREATER) (a_GREATER_EQUAL) (a_ADD) (a_SUBTRACT) (a_NEGATE) h37 O37 w hpr) hZ (hw _ (List.mem_of_getElem? (i := 45) rfl)) (hw _ (List.mem_of_getElem? (i := 3) rfl)) (by decide) (by decide)) q56a q56c (g := (mkF m 185 #[.val (.int p0), .val (.ref b1), .val (.ref o), .val (.int (1 : Int32))] [(.ref o)])) rfl (by rw [hml]; rfl) (Steps.refl _) (argsL := []) (rest := []) (lenOf own_pd0 rfl) rfl (by show 2 * 0 + _ ≤ _; exact Nat.le_of_eq rfl) (hb hby at_185) (fun _ _ => ⟨rfl, e54, (by decide : 1 + 0 ≤ _), (by decide : 18 + 0 ≤ _)⟩)
              dsimp only [Pt.U, Pt.locs, Pt.cells, Pt.slots] at X56 lu56 yu56 zu56 st56 hQ56
              subst lu56 yu56 zu56
              obtain ⟨rfl, N56q, e56⟩ := hQ56
              have N56 := Fr.app N37 N56q
              refine own_go (T56.setTop (mkF m 188 #[.val (.int p0), .val (.ref b1), .val (.ref o), .val (.int (1 : Int32))] [(.int (if own_prec i = 4 then 1 else 0))])) (fun t_ k_ => st56.trans k_) ?_
              refine own_go (T56.setTop (mkF m 189 #[.val (.int p0), .val (.ref b1), .val (.ref o), .val (.int (1 : Int32))] [(.int (1 : Int32)), (.int (if own_prec i = 4 then 1 else 0))])) (fun t_ k_ => XS.iloadN X56.here hx rfl (hb hby at_188) rfl k_) ?_
              have hk : i = 14 := Decidable.byContradiction fun r => Fld.ne ho F_GREATER_EQUAL_ordinal (by simpa using r) ha175_55
              have hfin : (if own_prec i = 4 then 1 else 0) = (1 : Int32) := by rw [hk] <;> rfl
              refine own_go (T56.setTop (mkF m 192 #[.val (.int p0), .val (.ref b1), .val (.ref o), .val (.int (1 : Int32))] [])) (fun t_ k_ => XS.icmpNo X56.here hx rfl (hb hby at_189) rfl (teq hfin).2 k_) ?_
              refine own_go (T56.setTop (mkF m 193 #[.val (.int p0), .val (.ref b1), .val (.ref o), .val (.int (1 : Int32))] [(.int (1 : Int32))])) (fun t_ k_ => XS.iconst X56.here hx rfl (hb hby at_192) k_) ?_
              refine own_go (T56.setTop (mkF m 197 #[.val (.int p0), .val (.ref b1), .val (.ref o), .val (.int (1 : Int32))] [(.int (1 : Int32))])) (fun t_ k_ => XS.goto X56.here hx rfl (pc0 := 193) (pc' := 197) rfl (hb hby at_193) (by decide) (by decide) k_) ?_
              obtain ⟨fs, hr, hrun, hended, hW, hsame⟩ := X56.leave (v := some (.int (nar .boolean (1 : Int32)))) (fun h => by rw [Bd.returns] at h; cases h)
              refine ⟨_, _, retN X56 hx (t := .boolean) Bd.returns (by simp) (hb hby at_197) hr, hrun, hended, _, _, rfl, ?_, ⟨_, rfl⟩, hW, hsame.mono (by decide) (by decide)⟩
              show Q_law Z p0 a_INTEGER a_STRING a_TRUE a_FALSE a_NAME a_CALL a_OR a_AND a_NOT a_EQUAL a_NOT_EQUAL a_LESS a_LESS_EQUAL a_GREATER a_GREATER_EQUAL a_ADD a_SUBTRACT a_NEGATE h0 _ T56.heap _
              exact ⟨rfl, N56, trivial⟩
            ·
              refine own_go (T54.setTop (mkF m 182 #[.val (.int p0), .val (.ref b1), .val (.ref o), .unset] [])) (fun t_ k_ => Jvm.RoadKit.acmp (g := (mkF m 175 #[.val (.int p0), .val (.ref b1), .val (.ref o), .unset] [(.ref a_GREATER_EQUAL), (.ref o)])) X54 hx rfl rfl rfl (pc0 := 175) (pc' := 182) (same := false) rfl (hb hby at_175) rfl (decide_eq_false fun q => ha175_55 (Value.ref.inj q)) (by decide) (by decide) k_) ?_
              refine own_go (T54.setTop (mkF m 183 #[.val (.int p0), .val (.ref b1), .val (.ref o), .unset] [(.int (0 : Int32))])) (fun t_ k_ => XS.iconst X54.here hx rfl (hb hby at_182) k_) ?_
              refine own_go (T54.setTop (mkF m 184 #[.val (.int p0), .val (.ref b1), .val (.ref o), .val (.int (0 : Int32))] [])) (fun t_ k_ => XS.istoreN X54.here hx rfl (hb hby at_183) rfl (l' := #[.val (.int p0), .val (.ref b1), .val (.ref o), .val (.int (0 : Int32))]) rfl k_) ?_
              refine own_go (T54.setTop (mkF m 185 #[.val (.int p0), .val (.ref b1), .val (.ref o), .val (.int (0 : Int32))] [(.ref o)])) (fun t_ k_ => XS.aloadN X54.here hx rfl (hb hby at_184) rfl rfl k_) ?_
              obtain ⟨cq57, kq57, q57a, q57b, q57c⟩ := isOf hZ e54 (hxo.ext O37)
              obtain ⟨_, _, ⟨T57, Lu57, ku57, nu57⟩, -, X57, ⟨Lc57, hQ57, lu57, yu57, zu57⟩, st57⟩ := X54.virtualBack hx (y := (⟨"com/example/conformal/conformal/Expression$Operator", "isComparison", "()Z"⟩ : MethodName)) (z := (⟨"com/example/conformal/conformal/Expression$Operator", "isComparison", "()Z"⟩ : MethodName)) hown (mvT hZ (hw _ (List.mem_of_getElem? (i := 41) rfl))) (mvT hZ (hw _ (List.mem_of_getElem? (i := 42) rfl))) (notFace_of_selects (args := #[]) (mvT hZ (hw _ (List.mem_of_getElem? (i := 44) rfl)))) (mvT hZ (hw _ (List.mem_of_getElem? (i := 44) rfl))) (mvT hZ (hw _ (List.mem_of_getElem? (i := 43) rfl))) (by decide) (backOf (W := 0) (rm_ic l Z a0 hw [] (o) (own_prec i) (a_INTEGER) (a_STRING) (a_TRUE) (a_FALSE) (a_NAME) (a_CALL) (a_OR) (a_AND) (a_NOT) (a_EQUAL) (a_NOT_EQUAL) (a_LESS) (a_LESS_EQUAL) (a_GREATER) (a_GREATER_EQUAL) (a_ADD) (a_SUBTRACT) (a_NEGATE) h37 O37 w hpr) hZ (hw _ (List.mem_of_getElem? (i := 45) rfl)) (hw _ (List.mem_of_getElem? (i := 3) rfl)) (by decide) (by decide)) q57a q57c (g := (mkF m 185 #[.val (.int p0), .val (.ref b1), .val (.ref o), .val (.int (0 : Int32))] [(.ref o)])) rfl (by rw [hml]; rfl) (Steps.refl _) (argsL := []) (rest := []) (lenOf own_pd0 rfl) rfl (by show 2 * 0 + _ ≤ _; exact Nat.le_of_eq rfl) (hb hby at_185) (fun _ _ => ⟨rfl, e54, (by decide : 1 + 0 ≤ _), (by decide : 18 + 0 ≤ _)⟩)
              dsimp only [Pt.U, Pt.locs, Pt.cells, Pt.slots] at X57 lu57 yu57 zu57 st57 hQ57
              subst lu57 yu57 zu57
              obtain ⟨rfl, N57q, e57⟩ := hQ57
              have N57 := Fr.app N37 N57q
              refine own_go (T57.setTop (mkF m 188 #[.val (.int p0), .val (.ref b1), .val (.ref o), .val (.int (0 : Int32))] [(.int (if own_prec i = 4 then 1 else 0))])) (fun t_ k_ => st57.trans k_) ?_
              refine own_go (T57.setTop (mkF m 189 #[.val (.int p0), .val (.ref b1), .val (.ref o), .val (.int (0 : Int32))] [(.int (0 : Int32)), (.int (if own_prec i = 4 then 1 else 0))])) (fun t_ k_ => XS.iloadN X57.here hx rfl (hb hby at_188) rfl k_) ?_
              have hfin : (if own_prec i = 4 then 1 else 0) = (0 : Int32) := if_neg (own_four i hi0 hi1 (fun q => ha140_40 (by rw [hoo, q] <;> rfl)) (fun q => ha147_43 (by rw [hoo, q] <;> rfl)) (fun q => ha154_46 (by rw [hoo, q] <;> rfl)) (fun q => ha161_49 (by rw [hoo, q] <;> rfl)) (fun q => ha168_52 (by rw [hoo, q] <;> rfl)) (fun q => ha175_55 (by rw [hoo, q] <;> rfl)))
              refine own_go (T57.setTop (mkF m 192 #[.val (.int p0), .val (.ref b1), .val (.ref o), .val (.int (0 : Int32))] [])) (fun t_ k_ => XS.icmpNo X57.here hx rfl (hb hby at_189) rfl (teq hfin).2 k_) ?_
              refine own_go (T57.setTop (mkF m 193 #[.val (.int p0), .val (.ref b1), .val (.ref o), .val (.int (0 : Int32))] [(.int (1 : Int32))])) (fun t_ k_ => XS.iconst X57.here hx rfl (hb hby at_192) k_) ?_
              refine own_go (T57.setTop (mkF m 197 #[.val (.int p0), .val (.ref b1), .val (.ref o), .val (.int (0 : Int32))] [(.int (1 : Int32))])) (fun t_ k_ => XS.goto X57.here hx rfl (pc0 := 193) (pc' := 197) rfl (hb hby at_193) (by decide) (by decide) k_) ?_
              obtain ⟨fs, hr, hrun, hended, hW, hsame⟩ := X57.leave (v := some (.int (nar .boolean (1 : Int32)))) (fun h => by rw [Bd.returns] at h; cases h)
              refine ⟨_, _, retN X57 hx (t := .boolean) Bd.returns (by simp) (hb hby at_197) hr, hrun, hended, _, _, rfl, ?_, ⟨_, rfl⟩, hW, hsame.mono (by decide) (by decide)⟩
              show Q_law Z p0 a_INTEGER a_STRING a_TRUE a_FALSE a_NAME a_CALL a_OR a_AND a_NOT a_EQUAL a_NOT_EQUAL a_LESS a_LESS_EQUAL a_GREATER a_GREATER_EQUAL a_ADD a_SUBTRACT a_NEGATE h0 _ T57.heap _
              exact ⟨rfl, N57, trivial⟩
set_option maxRecDepth 65536 in
set_option maxHeartbeats 40000000 in
theorem comes_1 {Post : Tables → Env → Array Value → State → Outcome → State → Prop} (hpost : ∀ tb e args s v u, (limb_1_1.after args s (.returned v) u = true ∧ limb_1_2.after args s (.returned v) u = true ∧ True) → FrameEnd s (.returned v) u (Jvm.fieldLocs frame_1_writes args s ++ Jvm.arrayLocs frame_1_arrays args s ++ Jvm.staticLocs frame_1_statics s) 16 128 → Post tb e args s (.returned v) u) :
    ArmFor flags0 classFile x code maxLocals ret World_1 tables_1 room_1 Calls_1 rest_1 Pre_1 Post := by
  intro l hfl _ _ p e ha hc hk s m args below hf hA hF happ hP
  obtain ⟨hcalls, hrest, hpre⟩ := hP
  obtain ⟨-, -, -, hnamed, -, -, -, hat⟩ := (Spec.applies_iff hf).mp happ
  obtain ⟨hg, hn⟩ := and_e (Cond.before_iff.mp (show (Jvm.Cond.and given_1 narrow_1).before args s = true from hpre))
  obtain ⟨g1, g2⟩ := and_e hg
  obtain ⟨w0, rfl⟩ : ∃ w0 : Value, args = #[w0] := by
    have hs : args.size = 1 := by simpa [Cond.value, given_1] using g1
    obtain ⟨L⟩ := args
    match L, hs with
    | [w0], _ => exact ⟨w0, rfl⟩
  have hw := fun d (hd : d ∈ tables_1) => atoms_spec (ws := Jvm.Cond.code x code maxLocals ret :: tables_1) hat d (List.mem_cons_of_mem _ hd)
  have hfit : Fit s := fun {y c} hc i hi => by
    obtain ⟨ha, rfl⟩ := Array.getElem?_eq_some_iff.mp hc
    have q := List.all_eq_true.mp ((Array.all_eq_true_iff_forall_mem.mp hF) _ (Array.getElem_mem ha)) i (List.mem_range.mpr hi)
    simpa [Array.getElem?_eq_getElem hi] using q
  obtain ⟨i0, ei0⟩ := is_v g2
  obtain rfl : w0 = (.int i0) := Option.some.inj ei0
  obtain ⟨hn1, hn2⟩ := and_e hn
  obtain ⟨hn21, hn22⟩ := and_e hn2
  obtain ⟨hn221, hn222⟩ := and_e hn22
  obtain ⟨hn2221, hn2222⟩ := and_e hn222
  obtain ⟨hn22221, hn22222⟩ := and_e hn2222
  obtain ⟨hn222221, hn222222⟩ := and_e hn22222
  obtain ⟨hn2222221, hn2222222⟩ := and_e hn222222
  obtain ⟨hn22222221, hn22222222⟩ := and_e hn2222222
  obtain ⟨hn222222221, hn222222222⟩ := and_e hn22222222
  obtain ⟨hn2222222221, hn2222222222⟩ := and_e hn222222222
  obtain ⟨hn22222222221, hn22222222222⟩ := and_e hn2222222222
  obtain ⟨hn222222222221, hn222222222222⟩ := and_e hn22222222222
  obtain ⟨hn2222222222221, hn2222222222222⟩ := and_e hn222222222222
  obtain ⟨hn22222222222221, hn22222222222222⟩ := and_e hn2222222222222
  obtain ⟨hn222222222222221, hn222222222222222⟩ := and_e hn22222222222222
  obtain ⟨hn2222222222222221, hn2222222222222222⟩ := and_e hn222222222222222
  obtain ⟨hn22222222222222221, hn22222222222222222⟩ := and_e hn2222222222222222
  obtain ⟨hn222222222222222221, hn222222222222222222⟩ := and_e hn22222222222222222
  obtain ⟨hn2222222222222222221, hn2222222222222222222⟩ := and_e hn222222222222222222
  obtain ⟨hn22222222222222222221, hn22222222222222222222⟩ := and_e hn2222222222222222222
  obtain ⟨hn222222222222222222221, hn222222222222222222222⟩ := and_e hn22222222222222222222
  obtain ⟨hn2222222222222222222221, hn2222222222222222222222⟩ := and_e hn222222222222222222222
  obtain ⟨hn22222222222222222222221, hn22222222222222222222222⟩ := and_e hn2222222222222222222222
  obtain ⟨hn222222222222222222222221, hn222222222222222222222222⟩ := and_e hn22222222222222222222222
  obtain ⟨hn2222222222222222222222221, hn2222222222222222222222222⟩ := and_e hn222222222222222222222222
  obtain ⟨hn22222222222222222222222221, hn22222222222222222222222222⟩ := and_e hn2222222222222222222222222
  obtain ⟨hn222222222222222222222222221, hn222222222222222222222222222⟩ := and_e hn22222222222222222222222222
  obtain ⟨hn2222222222222222222222222221, hn2222222222222222222222222222⟩ := and_e hn222222222222222222222222222
  obtain ⟨hn22222222222222222222222222221, hn22222222222222222222222222222⟩ := and_e hn2222222222222222222222222222
  obtain ⟨hn222222222222222222222222222221, hn222222222222222222222222222222⟩ := and_e hn22222222222222222222222222222
  obtain ⟨hn2222222222222222222222222222221, hn2222222222222222222222222222222⟩ := and_e hn222222222222222222222222222222
  obtain ⟨hn22222222222222222222222222222221, hn22222222222222222222222222222222⟩ := and_e hn2222222222222222222222222222222
  obtain ⟨hn222222222222222222222222222222221, hn222222222222222222222222222222222⟩ := and_e hn22222222222222222222222222222222
  obtain ⟨hn2222222222222222222222222222222221, hn2222222222222222222222222222222222⟩ := and_e hn222222222222222222222222222222222
  obtain ⟨hn22222222222222222222222222222222221, hn22222222222222222222222222222222222⟩ := and_e hn2222222222222222222222222222222222
  obtain ⟨hn222222222222222222222222222222222221, hn222222222222222222222222222222222222⟩ := and_e hn22222222222222222222222222222222222
  obtain ⟨hn2222222222222222222222222222222222221, hn2222222222222222222222222222222222222⟩ := and_e hn222222222222222222222222222222222222
  obtain ⟨hn22222222222222222222222222222222222221, hn22222222222222222222222222222222222222⟩ := and_e hn2222222222222222222222222222222222222
  obtain ⟨hn222222222222222222222222222222222222221, hn222222222222222222222222222222222222222⟩ := and_e hn22222222222222222222222222222222222222
  obtain ⟨hn2222222222222222222222222222222222222221, hn2222222222222222222222222222222222222222⟩ := and_e hn222222222222222222222222222222222222222
  obtain ⟨hn22222222222222222222222222222222222222221, hn22222222222222222222222222222222222222222⟩ := and_e hn2222222222222222222222222222222222222222
  obtain ⟨hn222222222222222222222222222222222222222221, hn222222222222222222222222222222222222222222⟩ := and_e hn22222222222222222222222222222222222222222
  obtain ⟨hn2222222222222222222222222222222222222222221, hn2222222222222222222222222222222222222222222⟩ := and_e hn222222222222222222222222222222222222222222
  obtain ⟨hn22222222222222222222222222222222222222222221, hn22222222222222222222222222222222222222222222⟩ := and_e hn2222222222222222222222222222222222222222222
  obtain ⟨hn222222222222222222222222222222222222222222221, hn222222222222222222222222222222222222222222222⟩ := and_e hn22222222222222222222222222222222222222222222
  obtain ⟨hn2222222222222222222222222222222222222222222221, hn2222222222222222222222222222222222222222222222⟩ := and_e hn222222222222222222222222222222222222222222222
  obtain ⟨hn22222222222222222222222222222222222222222222221, hn22222222222222222222222222222222222222222222222⟩ := and_e hn2222222222222222222222222222222222222222222222
  obtain ⟨hn222222222222222222222222222222222222222222222221, hn222222222222222222222222222222222222222222222222⟩ := and_e hn22222222222222222222222222222222222222222222222
  obtain ⟨hn2222222222222222222222222222222222222222222222221, hn2222222222222222222222222222222222222222222222222⟩ := and_e hn222222222222222222222222222222222222222222222222
  obtain ⟨hn22222222222222222222222222222222222222222222222221, hn22222222222222222222222222222222222222222222222222⟩ := and_e hn2222222222222222222222222222222222222222222222222
  obtain ⟨hn222222222222222222222222222222222222222222222222221, hn222222222222222222222222222222222222222222222222222⟩ := and_e hn22222222222222222222222222222222222222222222222222
  obtain ⟨hn2222222222222222222222222222222222222222222222222221, hn2222222222222222222222222222222222222222222222222222⟩ := and_e hn222222222222222222222222222222222222222222222222222
  obtain ⟨hn22222222222222222222222222222222222222222222222222221, hn22222222222222222222222222222222222222222222222222222⟩ := and_e hn2222222222222222222222222222222222222222222222222222
  obtain ⟨a_INTEGER, ev_INTEGER⟩ := exa_v hn1
  have S_INTEGER : Sta s s.heap "com/example/conformal/conformal/Expression$Operator" "INTEGER" "Lcom/example/conformal/conformal/Expression$Operator;" (.ref a_INTEGER) := Sta.start ev_INTEGER (Or.inr ⟨(hw _ (List.mem_of_getElem? (i := 3) rfl)), (hw _ (List.mem_of_getElem? (i := 4) rfl))⟩)
  have X_INTEGER : Exa s s.heap a_INTEGER "com/example/conformal/conformal/Expression$Operator" := Exa.start ev_INTEGER hn1
  obtain ⟨a_STRING, ev_STRING⟩ := exa_v hn21
  have S_STRING : Sta s s.heap "com/example/conformal/conformal/Expression$Operator" "STRING" "Lcom/example/conformal/conformal/Expression$Operator;" (.ref a_STRING) := Sta.start ev_STRING (Or.inr ⟨(hw _ (List.mem_of_getElem? (i := 3) rfl)), (hw _ (List.mem_of_getElem? (i := 7) rfl))⟩)
  have X_STRING : Exa s s.heap a_STRING "com/example/conformal/conformal/Expression$Operator" := Exa.start ev_STRING hn21
  obtain ⟨a_TRUE, ev_TRUE⟩ := exa_v hn221
  have S_TRUE : Sta s s.heap "com/example/conformal/conformal/Expression$Operator" "TRUE" "Lcom/example/conformal/conformal/Expression$Operator;" (.ref a_TRUE) := Sta.start ev_TRUE (Or.inr ⟨(hw _ (List.mem_of_getElem? (i := 3) rfl)), (hw _ (List.mem_of_getElem? (i := 9) rfl))⟩)
  have X_TRUE : Exa s s.heap a_TRUE "com/example/conformal/conformal/Expression$Operator" := Exa.start ev_TRUE hn221
  obtain ⟨a_FALSE, ev_FALSE⟩ := exa_v hn2221
  have S_FALSE : Sta s s.heap "com/example/conformal/conformal/Expression$Operator" "FALSE" "Lcom/example/conformal/conformal/Expression$Operator;" (.ref a_FALSE) := Sta.start ev_FALSE (Or.inr ⟨(hw _ (List.mem_of_getElem? (i := 3) rfl)), (hw _ (List.mem_of_getElem? (i := 11) rfl))⟩)
  have X_FALSE : Exa s s.heap a_FALSE "com/example/conformal/conformal/Expression$Operator" := Exa.start ev_FALSE hn2221
  obtain ⟨a_NAME, ev_NAME⟩ := exa_v hn22221
  have S_NAME : Sta s s.heap "com/example/conformal/conformal/Expression$Operator" "NAME" "Lcom/example/conformal/conformal/Expression$Operator;" (.ref a_NAME) := Sta.start ev_NAME (Or.inr ⟨(hw _ (List.mem_of_getElem? (i := 3) rfl)), (hw _ (List.mem_of_getElem? (i := 13) rfl))⟩)
  have X_NAME : Exa s s.heap a_NAME "com/example/conformal/conformal/Expression$Operator" := Exa.start ev_NAME hn22221
  obtain ⟨a_CALL, ev_CALL⟩ := exa_v hn222221
  have S_CALL : Sta s s.heap "com/example/conformal/conformal/Expression$Operator" "CALL" "Lcom/example/conformal/conformal/Expression$Operator;" (.ref a_CALL) := Sta.start ev_CALL (Or.inr ⟨(hw _ (List.mem_of_getElem? (i := 3) rfl)), (hw _ (List.mem_of_getElem? (i := 15) rfl))⟩)
  have X_CALL : Exa s s.heap a_CALL "com/example/conformal/conformal/Expression$Operator" := Exa.start ev_CALL hn222221
  obtain ⟨a_OR, ev_OR⟩ := exa_v hn2222221
  have S_OR : Sta s s.heap "com/example/conformal/conformal/Expression$Operator" "OR" "Lcom/example/conformal/conformal/Expression$Operator;" (.ref a_OR) := Sta.start ev_OR (Or.inr ⟨(hw _ (List.mem_of_getElem? (i := 3) rfl)), (hw _ (List.mem_of_getElem? (i := 17) rfl))⟩)
  have X_OR : Exa s s.heap a_OR "com/example/conformal/conformal/Expression$Operator" := Exa.start ev_OR hn2222221
  obtain ⟨a_AND, ev_AND⟩ := exa_v hn22222221
  have S_AND : Sta s s.heap "com/example/conformal/conformal/Expression$Operator" "AND" "Lcom/example/conformal/conformal/Expression$Operator;" (.ref a_AND) := Sta.start ev_AND (Or.inr ⟨(hw _ (List.mem_of_getElem? (i := 3) rfl)), (hw _ (List.mem_of_getElem? (i := 19) rfl))⟩)
  have X_AND : Exa s s.heap a_AND "com/example/conformal/conformal/Expression$Operator" := Exa.start ev_AND hn22222221
  obtain ⟨a_NOT, ev_NOT⟩ := exa_v hn222222221
  have S_NOT : Sta s s.heap "com/example/conformal/conformal/Expression$Operator" "NOT" "Lcom/example/conformal/conformal/Expression$Operator;" (.ref a_NOT) := Sta.start ev_NOT (Or.inr ⟨(hw _ (List.mem_of_getElem? (i := 3) rfl)), (hw _ (List.mem_of_getElem? (i := 21) rfl))⟩)
  have X_NOT : Exa s s.heap a_NOT "com/example/conformal/conformal/Expression$Operator" := Exa.start ev_NOT hn222222221
  obtain ⟨a_EQUAL, ev_EQUAL⟩ := exa_v hn2222222221
  have S_EQUAL : Sta s s.heap "com/example/conformal/conformal/Expression$Operator" "EQUAL" "Lcom/example/conformal/conformal/Expression$Operator;" (.ref a_EQUAL) := Sta.start ev_EQUAL (Or.inr ⟨(hw _ (List.mem_of_getElem? (i := 3) rfl)), (hw _ (List.mem_of_getElem? (i := 23) rfl))⟩)
  have X_EQUAL : Exa s s.heap a_EQUAL "com/example/conformal/conformal/Expression$Operator" := Exa.start ev_EQUAL hn2222222221
  obtain ⟨a_NOT_EQUAL, ev_NOT_EQUAL⟩ := exa_v hn22222222221
  have S_NOT_EQUAL : Sta s s.heap "com/example/conformal/conformal/Expression$Operator" "NOT_EQUAL" "Lcom/example/conformal/conformal/Expression$Operator;" (.ref a_NOT_EQUAL) := Sta.start ev_NOT_EQUAL (Or.inr ⟨(hw _ (List.mem_of_getElem? (i := 3) rfl)), (hw _ (List.mem_of_getElem? (i := 25) rfl))⟩)
  have X_NOT_EQUAL : Exa s s.heap a_NOT_EQUAL "com/example/conformal/conformal/Expression$Operator" := Exa.start ev_NOT_EQUAL hn22222222221
  obtain ⟨a_LESS, ev_LESS⟩ := exa_v hn222222222221
  have S_LESS : Sta s s.heap "com/example/conformal/conformal/Expression$Operator" "LESS" "Lcom/example/conformal/conformal/Expression$Operator;" (.ref a_LESS) := Sta.start ev_LESS (Or.inr ⟨(hw _ (List.mem_of_getElem? (i := 3) rfl)), (hw _ (List.mem_of_getElem? (i := 27) rfl))⟩)
  have X_LESS : Exa s s.heap a_LESS "com/example/conformal/conformal/Expression$Operator" := Exa.start ev_LESS hn222222222221
  obtain ⟨a_LESS_EQUAL, ev_LESS_EQUAL⟩ := exa_v hn2222222222221
  have S_LESS_EQUAL : Sta s s.heap "com/example/conformal/conformal/Expression$Operator" "LESS_EQUAL" "Lcom/example/conformal/conformal/Expression$Operator;" (.ref a_LESS_EQUAL) := Sta.start ev_LESS_EQUAL (Or.inr ⟨(hw _ (List.mem_of_getElem? (i := 3) rfl)), (hw _ (List.mem_of_getElem? (i := 29) rfl))⟩)
  have X_LESS_EQUAL : Exa s s.heap a_LESS_EQUAL "com/example/conformal/conformal/Expression$Operator" := Exa.start ev_LESS_EQUAL hn2222222222221
  obtain ⟨a_GREATER, ev_GREATER⟩ := exa_v hn22222222222221
  have S_GREATER : Sta s s.heap "com/example/conformal/conformal/Expression$Operator" "GREATER" "Lcom/example/conformal/conformal/Expression$Operator;" (.ref a_GREATER) := Sta.start ev_GREATER (Or.inr ⟨(hw _ (List.mem_of_getElem? (i := 3) rfl)), (hw _ (List.mem_of_getElem? (i := 31) rfl))⟩)
  have X_GREATER : Exa s s.heap a_GREATER "com/example/conformal/conformal/Expression$Operator" := Exa.start ev_GREATER hn22222222222221
  obtain ⟨a_GREATER_EQUAL, ev_GREATER_EQUAL⟩ := exa_v hn222222222222221
  have S_GREATER_EQUAL : Sta s s.heap "com/example/conformal/conformal/Expression$Operator" "GREATER_EQUAL" "Lcom/example/conformal/conformal/Expression$Operator;" (.ref a_GREATER_EQUAL) := Sta.start ev_GREATER_EQUAL (Or.inr ⟨(hw _ (List.mem_of_getElem? (i := 3) rfl)), (hw _ (List.mem_of_getElem? (i := 33) rfl))⟩)
  have X_GREATER_EQUAL : Exa s s.heap a_GREATER_EQUAL "com/example/conformal/conformal/Expression$Operator" := Exa.start ev_GREATER_EQUAL hn222222222222221
  obtain ⟨a_ADD, ev_ADD⟩ := exa_v hn2222222222222221
  have S_ADD : Sta s s.heap "com/example/conformal/conformal/Expression$Operator" "ADD" "Lcom/example/conformal/conformal/Expression$Operator;" (.ref a_ADD) := Sta.start ev_ADD (Or.inr ⟨(hw _ (List.mem_of_getElem? (i := 3) rfl)), (hw _ (List.mem_of_getElem? (i := 35) rfl))⟩)
  have X_ADD : Exa s s.heap a_ADD "com/example/conformal/conformal/Expression$Operator" := Exa.start ev_ADD hn2222222222222221
  obtain ⟨a_SUBTRACT, ev_SUBTRACT⟩ := exa_v hn22222222222222221
  have S_SUBTRACT : Sta s s.heap "com/example/conformal/conformal/Expression$Operator" "SUBTRACT" "Lcom/example/conformal/conformal/Expression$Operator;" (.ref a_SUBTRACT) := Sta.start ev_SUBTRACT (Or.inr ⟨(hw _ (List.mem_of_getElem? (i := 3) rfl)), (hw _ (List.mem_of_getElem? (i := 37) rfl))⟩)
  have X_SUBTRACT : Exa s s.heap a_SUBTRACT "com/example/conformal/conformal/Expression$Operator" := Exa.start ev_SUBTRACT hn22222222222222221
  obtain ⟨a_NEGATE, ev_NEGATE⟩ := exa_v hn222222222222222221
  have S_NEGATE : Sta s s.heap "com/example/conformal/conformal/Expression$Operator" "NEGATE" "Lcom/example/conformal/conformal/Expression$Operator;" (.ref a_NEGATE) := Sta.start ev_NEGATE (Or.inr ⟨(hw _ (List.mem_of_getElem? (i := 3) rfl)), (hw _ (List.mem_of_getElem? (i := 39) rfl))⟩)
  have X_NEGATE : Exa s s.heap a_NEGATE "com/example/conformal/conformal/Expression$Operator" := Exa.start ev_NEGATE hn222222222222222221
  have F_INTEGER_ordinal : Fld s s.heap a_INTEGER "java/lang/Enum" "ordinal" "I" (.int (0 : Int32)) := own_fldI hn2222222222222222221 ev_INTEGER
  have F_EQUAL_ordinal : Fld s s.heap a_EQUAL "java/lang/Enum" "ordinal" "I" (.int (9 : Int32)) := own_fldI hn22222222222222222221 ev_EQUAL
  have F_NOT_EQUAL_ordinal : Fld s s.heap a_NOT_EQUAL "java/lang/Enum" "ordinal" "I" (.int (10 : Int32)) := own_fldI hn222222222222222222221 ev_NOT_EQUAL
  have F_LESS_ordinal : Fld s s.heap a_LESS "java/lang/Enum" "ordinal" "I" (.int (11 : Int32)) := own_fldI hn2222222222222222222221 ev_LESS
  have F_LESS_EQUAL_ordinal : Fld s s.heap a_LESS_EQUAL "java/lang/Enum" "ordinal" "I" (.int (12 : Int32)) := own_fldI hn22222222222222222222221 ev_LESS_EQUAL
  have F_GREATER_ordinal : Fld s s.heap a_GREATER "java/lang/Enum" "ordinal" "I" (.int (13 : Int32)) := own_fldI hn222222222222222222222221 ev_GREATER
  have F_GREATER_EQUAL_ordinal : Fld s s.heap a_GREATER_EQUAL "java/lang/Enum" "ordinal" "I" (.int (14 : Int32)) := own_fldI hn2222222222222222222222221 ev_GREATER_EQUAL
  have F_INTEGER_precedence : Fld s s.heap a_INTEGER "com/example/conformal/conformal/Expression$Operator" "precedence" "I" (.int (0 : Int32)) := own_fldI hn22222222222222222222222221 ev_INTEGER
  have F_EQUAL_precedence : Fld s s.heap a_EQUAL "com/example/conformal/conformal/Expression$Operator" "precedence" "I" (.int (4 : Int32)) := own_fldI hn222222222222222222222222221 ev_EQUAL
  have F_FALSE_ordinal : Fld s s.heap a_FALSE "java/lang/Enum" "ordinal" "I" (.int (3 : Int32)) := own_fldI hn2222222222222222222222222221 ev_FALSE
  have F_FALSE_precedence : Fld s s.heap a_FALSE "com/example/conformal/conformal/Expression$Operator" "precedence" "I" (.int (0 : Int32)) := own_fldI hn22222222222222222222222222221 ev_FALSE
  have F_TRUE_ordinal : Fld s s.heap a_TRUE "java/lang/Enum" "ordinal" "I" (.int (2 : Int32)) := own_fldI hn222222222222222222222222222221 ev_TRUE
  have F_TRUE_precedence : Fld s s.heap a_TRUE "com/example/conformal/conformal/Expression$Operator" "precedence" "I" (.int (0 : Int32)) := own_fldI hn2222222222222222222222222222221 ev_TRUE
  have F_STRING_ordinal : Fld s s.heap a_STRING "java/lang/Enum" "ordinal" "I" (.int (1 : Int32)) := own_fldI hn22222222222222222222222222222221 ev_STRING
  have F_STRING_precedence : Fld s s.heap a_STRING "com/example/conformal/conformal/Expression$Operator" "precedence" "I" (.int (0 : Int32)) := own_fldI hn222222222222222222222222222222221 ev_STRING
  have F_AND_ordinal : Fld s s.heap a_AND "java/lang/Enum" "ordinal" "I" (.int (7 : Int32)) := own_fldI hn2222222222222222222222222222222221 ev_AND
  have F_AND_precedence : Fld s s.heap a_AND "com/example/conformal/conformal/Expression$Operator" "precedence" "I" (.int (2 : Int32)) := own_fldI hn22222222222222222222222222222222221 ev_AND
  have F_LESS_precedence : Fld s s.heap a_LESS "com/example/conformal/conformal/Expression$Operator" "precedence" "I" (.int (4 : Int32)) := own_fldI hn222222222222222222222222222222222221 ev_LESS
  have F_NAME_ordinal : Fld s s.heap a_NAME "java/lang/Enum" "ordinal" "I" (.int (4 : Int32)) := own_fldI hn2222222222222222222222222222222222221 ev_NAME
  have F_NAME_precedence : Fld s s.heap a_NAME "com/example/conformal/conformal/Expression$Operator" "precedence" "I" (.int (0 : Int32)) := own_fldI hn22222222222222222222222222222222222221 ev_NAME
  have F_NOT_ordinal : Fld s s.heap a_NOT "java/lang/Enum" "ordinal" "I" (.int (8 : Int32)) := own_fldI hn222222222222222222222222222222222222221 ev_NOT
  have F_NOT_precedence : Fld s s.heap a_NOT "com/example/conformal/conformal/Expression$Operator" "precedence" "I" (.int (3 : Int32)) := own_fldI hn2222222222222222222222222222222222222221 ev_NOT
  have F_LESS_EQUAL_precedence : Fld s s.heap a_LESS_EQUAL "com/example/conformal/conformal/Expression$Operator" "precedence" "I" (.int (4 : Int32)) := own_fldI hn22222222222222222222222222222222222222221 ev_LESS_EQUAL
  have F_SUBTRACT_ordinal : Fld s s.heap a_SUBTRACT "java/lang/Enum" "ordinal" "I" (.int (16 : Int32)) := own_fldI hn222222222222222222222222222222222222222221 ev_SUBTRACT
  have F_SUBTRACT_precedence : Fld s s.heap a_SUBTRACT "com/example/conformal/conformal/Expression$Operator" "precedence" "I" (.int (5 : Int32)) := own_fldI hn2222222222222222222222222222222222222222221 ev_SUBTRACT
  have F_ADD_ordinal : Fld s s.heap a_ADD "java/lang/Enum" "ordinal" "I" (.int (15 : Int32)) := own_fldI hn22222222222222222222222222222222222222222221 ev_ADD
  have F_ADD_precedence : Fld s s.heap a_ADD "com/example/conformal/conformal/Expression$Operator" "precedence" "I" (.int (5 : Int32)) := own_fldI hn222222222222222222222222222222222222222222221 ev_ADD
  have F_NOT_EQUAL_precedence : Fld s s.heap a_NOT_EQUAL "com/example/conformal/conformal/Expression$Operator" "precedence" "I" (.int (4 : Int32)) := own_fldI hn2222222222222222222222222222222222222222222221 ev_NOT_EQUAL
  have F_GREATER_precedence : Fld s s.heap a_GREATER "com/example/conformal/conformal/Expression$Operator" "precedence" "I" (.int (4 : Int32)) := own_fldI hn22222222222222222222222222222222222222222222221 ev_GREATER
  have F_OR_ordinal : Fld s s.heap a_OR "java/lang/Enum" "ordinal" "I" (.int (6 : Int32)) := own_fldI hn222222222222222222222222222222222222222222222221 ev_OR
  have F_OR_precedence : Fld s s.heap a_OR "com/example/conformal/conformal/Expression$Operator" "precedence" "I" (.int (1 : Int32)) := own_fldI hn2222222222222222222222222222222222222222222222221 ev_OR
  have F_NEGATE_ordinal : Fld s s.heap a_NEGATE "java/lang/Enum" "ordinal" "I" (.int (17 : Int32)) := own_fldI hn22222222222222222222222222222222222222222222222221 ev_NEGATE
  have F_NEGATE_precedence : Fld s s.heap a_NEGATE "com/example/conformal/conformal/Expression$Operator" "precedence" "I" (.int (6 : Int32)) := own_fldI hn222222222222222222222222222222222222222222222222221 ev_NEGATE
  have F_GREATER_EQUAL_precedence : Fld s s.heap a_GREATER_EQUAL "com/example/conformal/conformal/Expression$Operator" "precedence" "I" (.int (4 : Int32)) := own_fldI hn2222222222222222222222222222222222222222222222222221 ev_GREATER_EQUAL
  have F_CALL_ordinal : Fld s s.heap a_CALL "java/lang/Enum" "ordinal" "I" (.int (5 : Int32)) := own_fldI hn22222222222222222222222222222222222222222222222222221 ev_CALL
  have F_CALL_precedence : Fld s s.heap a_CALL "com/example/conformal/conformal/Expression$Operator" "precedence" "I" (.int (0 : Int32)) := own_fldI hn22222222222222222222222222222222222222222222222222222 ev_CALL
  obtain ⟨n, o, h1, h2, h3, _, L, rfl, ⟨rfl, N, -⟩, hq⟩ := rm_law l s _ hw tables_1 i0 a_INTEGER a_STRING a_TRUE a_FALSE a_NAME a_CALL a_OR a_AND a_NOT a_EQUAL a_NOT_EQUAL a_LESS a_LESS_EQUAL a_GREATER a_GREATER_EQUAL a_ADD a_SUBTRACT a_NEGATE s.heap ⟨Nat.le_refl _, fun _ _ q => q⟩ ⟨S_INTEGER, X_INTEGER, S_STRING, X_STRING, S_TRUE, X_TRUE, S_FALSE, X_FALSE, S_NAME, X_NAME, S_CALL, X_CALL, S_OR, X_OR, S_AND, X_AND, S_NOT, X_NOT, S_EQUAL, X_EQUAL, S_NOT_EQUAL, X_NOT_EQUAL, S_LESS, X_LESS, S_LESS_EQUAL, X_LESS_EQUAL, S_GREATER, X_GREATER, S_GREATER_EQUAL, X_GREATER_EQUAL, S_ADD, X_ADD, S_SUBTRACT, X_SUBTRACT, S_NEGATE, X_NEGATE, F_INTEGER_ordinal, F_EQUAL_ordinal, F_NOT_EQUAL_ordinal, F_LESS_ordinal, F_LESS_EQUAL_ordinal, F_GREATER_ordinal, F_GREATER_EQUAL_ordinal, F_INTEGER_precedence, F_EQUAL_precedence, F_FALSE_ordinal, F_FALSE_precedence, F_TRUE_ordinal, F_TRUE_precedence, F_STRING_ordinal, F_STRING_precedence, F_AND_ordinal, F_AND_precedence, F_LESS_precedence, F_NAME_ordinal, F_NAME_precedence, F_NOT_ordinal, F_NOT_precedence, F_LESS_EQUAL_precedence, F_SUBTRACT_ordinal, F_SUBTRACT_precedence, F_ADD_ordinal, F_ADD_precedence, F_NOT_EQUAL_precedence, F_GREATER_precedence, F_OR_ordinal, F_OR_precedence, F_NEGATE_ordinal, F_NEGATE_precedence, F_GREATER_EQUAL_precedence, F_CALL_ordinal, F_CALL_precedence⟩  p e ha hc hk s m _ below hf ((Spec.applies_iff_loose hf).mp happ).1 ⟨rfl, State.Warmed39.refl s, rfl⟩ trivial
  refine ⟨n, _, h1, h2, h3, hpost _ _ _ _ _ _ ⟨Cond.after_iff.mpr rfl, Cond.after_iff.mpr (eq_i res_at (Term.int_eval (1)) rfl), trivial⟩ ⟨hq.1, hq.2.1, (hq.2.2.sift fun y hy => Or.inr (N y hy)).mono (by decide) (by decide)⟩⟩
theorem main_1_1 : Claimed_1_1 := comes_1 fun _ _ _ _ _ _ h hF => ⟨h.1, hF⟩
theorem main_1_2 : Claimed_1_2 := comes_1 fun _ _ _ _ _ _ h hF => ⟨h.2.1, hF⟩
end Jvm.Pilot.@@N@@
namespace Jvm.Pilot.@@N@@
open Jvm Jvm.ClassFile Sem Op Lib Jvm.Free Jvm.Stand Jvm.Pilot.@@N@@.Jvm.D
/-! MADE BY PROGRAM (witnessworld.py) out of the Statement's table words and the real class files: 13 classes; the members and pool entries that the words name. The judged class is class 1, her method 1. -/
namespace start1
open Jvm.ClassFile
def u (s : String) : CpInfo := .utf8 (stringToUtf16 s)
/-- a pool by its gaps: so many unusable entries, then the entry; so many at the end -/
def gap : Nat → List CpInfo → List CpInfo
  | 0, r => r
  | n + 1, r => .unusable :: gap n r
def poolList (es : List (Nat × CpInfo)) (last : Nat) : List CpInfo := es.foldr (fun e r => gap e.1 (e.2 :: r)) (gap last [])
def pool (es : List (Nat × CpInfo)) (last : Nat) : Array CpInfo := ⟨poolList es last⟩
def fileOf (pool : Array CpInfo) (this : Nat) (attrs : Array Attribute := #[]) (ms : Array MethodInfo := #[]) (fl : Nat := 33) (sup : Nat := 0) (ifs : Array Nat := #[]) (fds : Array FieldInfo := #[]) : ClassFile where
  minorVersion := 0
  majorVersion := 65
  constantPool := pool
  accessFlags := fl
  thisClass := this
  superClass := sup
  interfaces := ifs
  fields := fds
  methods := ms
  attributes := attrs
def plain (name : String) (sup : Option ClassId) : Class where
  name := name
  kind := .ordinary
  loader := none
  accessFlags := 33
  super := sup
  interfaces := #[]
  cf := none
  fields := #[]
  methods := #[]
  instanceTypes := #[]
  staticTypes := #[]
  resolved := #[]
  callSites := []
  init := .initialized
  statics := none
  mirror := none

def pool0 : Array CpInfo := pool [(5, u "<init>"), (0, u "()V"), (1, .class_ 10), (1, u "java/lang/Object")] 113

def k0m0 : Method := { name := "<init>", desc := "()V", sig := { parameters := [], returnType := none }, accessFlags := 1, code := none }
/-- java/lang/Object -/
def k0 : Class := { plain "java/lang/Object" none with
  accessFlags := 33
  interfaces := #[]
  cf := some (fileOf pool0 8 #[] #[{ accessFlags := 1, nameIndex := 5, descriptorIndex := 6, attributes := #[] }] 33 0 #[] #[])
  fields := #[]
  methods := #[k0m0]
  instanceTypes := #[]
  staticTypes := #[]
  resolved := Array.replicate 124 none
  statics := none }

def pool1 : Array CpInfo := pool [(2, .class_ 4), (1, u "java/lang/Object"), (0, u "<init>"), (0, u "()V"), (0, .class_ 8), (0, u "com/example/conformal/conformal/Expression$Operator"), (0, .fieldref 7 10), (0, .nameAndType 11 12), (0, u "INTEGER"), (0, u "Lcom/example/conformal/conformal/Expression$Operator;"), (0, .fieldref 7 14), (0, .nameAndType 15 12), (0, u "STRING"), (0, .fieldref 7 17), (0, .nameAndType 18 12), (0, u "TRUE"), (0, .fieldref 7 20), (0, .nameAndType 21 12), (0, u "FALSE"), (0, .fieldref 7 23), (0, .nameAndType 24 12), (0, u "NAME"), (0, .fieldref 7 26), (0, .nameAndType 27 12), (0, u "CALL"), (0, .fieldref 7 29), (0, .nameAndType 30 12), (0, u "OR"), (0, .fieldref 7 32), (0, .nameAndType 33 12), (0, u "AND"), (0, .fieldref 7 35), (0, .nameAndType 36 12), (0, u "NOT"), (0, .fieldref 7 38), (0, .nameAndType 39 12), (0, u "EQUAL"), (0, .fieldref 7 41), (0, .nameAndType 42 12), (0, u "NOT_EQUAL"), (0, .fieldref 7 44), (0, .nameAndType 45 12), (0, u "LESS"), (0, .fieldref 7 47), (0, .nameAndType 48 12), (0, u "LESS_EQUAL"), (0, .fieldref 7 50), (0, .nameAndType 51 12), (0, u "GREATER"), (0, .fieldref 7 53), (0, .nameAndType 54 12), (0, u "GREATER_EQUAL"), (0, .fieldref 7 56), (0, .nameAndType 57 12), (0, u "ADD"), (0, .fieldref 7 59), (0, .nameAndType 60 12), (0, u "SUBTRACT"), (0, .fieldref 7 62), (0, .nameAndType 63 12), (0, u "NEGATE"), (0, .integer 2147483647), (0, .methodref 7 66), (0, .nameAndType 67 68), (0, u "isComparison"), (0, u "()Z"), (0, .class_ 70), (0, u "com/example/conformal/conformal/OperatorIsComparisonPinLaw"), (2, u "law"), (0, u "(I)Z")] 9

def k1m0 : Method := { name := "<init>", desc := "()V", sig := { parameters := [], returnType := none }, accessFlags := 2, code := none }
def k1c1 : Code := { maxStack := 4, maxLocals := 4, code := code, exceptionTable := #[], attributes := #[] }
def k1m1 : Method := { name := "law", desc := "(I)Z", sig := { parameters := [.int], returnType := some .boolean }, accessFlags := 9, code := some k1c1 }
/-- com/example/conformal/conformal/OperatorIsComparisonPinLaw -/
def k1 : Class := { plain "com/example/conformal/conformal/OperatorIsComparisonPinLaw" (some 0) with
  accessFlags := 49
  interfaces := #[]
  cf := some (fileOf pool1 69 #[] #[{ accessFlags := 2, nameIndex := 5, descriptorIndex := 6, attributes := #[] }, { accessFlags := 9, nameIndex := 73, descriptorIndex := 74, attributes := #[] }] 49 2 #[] #[])
  fields := #[]
  methods := #[k1m0, k1m1]
  instanceTypes := #[]
  staticTypes := #[]
  resolved := Array.replicate 84 none
  statics := none }

def pool2 : Array CpInfo := pool [(1, .class_ 2), (0, u "java/lang/constant/Constable"), (0, .class_ 4), (0, u "java/lang/Object")] 6

/-- java/lang/constant/Constable -/
def k2 : Class := { plain "java/lang/constant/Constable" (some 0) with
  accessFlags := 1537
  interfaces := #[]
  cf := some (fileOf pool2 1 #[] #[] 1537 3 #[] #[])
  fields := #[]
  methods := #[]
  instanceTypes := #[]
  staticTypes := #[]
  resolved := Array.replicate 11 none
  statics := none }

def pool3 : Array CpInfo := pool [(1, .class_ 2), (0, u "java/lang/Comparable"), (0, .class_ 4), (0, u "java/lang/Object")] 7

/-- java/lang/Comparable -/
def k3 : Class := { plain "java/lang/Comparable" (some 0) with
  accessFlags := 1537
  interfaces := #[]
  cf := some (fileOf pool3 1 #[] #[] 1537 3 #[] #[])
  fields := #[]
  methods := #[]
  instanceTypes := #[]
  staticTypes := #[]
  resolved := Array.replicate 12 none
  statics := none }

def pool4 : Array CpInfo := pool [(1, .class_ 2), (0, u "java/io/Serializable"), (0, .class_ 4), (0, u "java/lang/Object")] 2

/-- java/io/Serializable -/
def k4 : Class := { plain "java/io/Serializable" (some 0) with
  accessFlags := 1537
  interfaces := #[]
  cf := some (fileOf pool4 1 #[] #[] 1537 3 #[] #[])
  fields := #[]
  methods := #[]
  instanceTypes := #[]
  staticTypes := #[]
  resolved := Array.replicate 7 none
  statics := none }

def pool5 : Array CpInfo := pool [(2, .class_ 4), (1, u "java/lang/Enum"), (0, u "name"), (0, u "Ljava/lang/String;"), (2, u "ordinal"), (0, u "I"), (1, .class_ 14), (1, u "java/lang/Object"), (4, u "hash"), (86, .class_ 108), (1, u "java/lang/Enum$EnumDesc"), (2, .class_ 112), (0, u "java/lang/constant/Constable"), (0, .class_ 114), (0, u "java/lang/Comparable"), (0, .class_ 116), (0, u "java/io/Serializable")] 87

/-- java/lang/Enum -/
def k5 : Class := { plain "java/lang/Enum" (some 0) with
  accessFlags := 1057
  interfaces := #[2, 3, 4]
  cf := some (fileOf pool5 2 #[.nestMembers #[106]] #[] 1057 12 #[111, 113, 115] #[{ accessFlags := 18, nameIndex := 5, descriptorIndex := 6, attributes := #[] }, { accessFlags := 18, nameIndex := 9, descriptorIndex := 10, attributes := #[] }, { accessFlags := 2, nameIndex := 19, descriptorIndex := 10, attributes := #[] }])
  fields := #[{ name := "name", type := (.object "java/lang/String"), accessFlags := 18, slot := 0, constantValue := 0 }, { name := "ordinal", type := .int, accessFlags := 18, slot := 1, constantValue := 0 }, { name := "hash", type := .int, accessFlags := 2, slot := 2, constantValue := 0 }]
  methods := #[]
  instanceTypes := #[(.object "java/lang/String"), .int, .int]
  staticTypes := #[]
  resolved := Array.replicate 204 none
  statics := none }

def pool6 : Array CpInfo := pool [(1, .class_ 2), (0, u "com/example/conformal/conformal/Expression$Operator"), (2, u "INTEGER"), (0, u "Lcom/example/conformal/conformal/Expression$Operator;"), (2, u "STRING"), (2, u "TRUE"), (2, u "FALSE"), (2, u "NAME"), (2, u "CALL"), (2, u "OR"), (2, u "AND"), (2, u "NOT"), (0, .fieldref 1 32), (0, .nameAndType 33 6), (0, u "EQUAL"), (2, u "NOT_EQUAL"), (2, u "LESS"), (2, u "LESS_EQUAL"), (2, u "GREATER"), (2, u "GREATER_EQUAL"), (2, u "ADD"), (2, u "SUBTRACT"), (2, u "NEGATE"), (2, u "$VALUES"), (0, u "[Lcom/example/conformal/conformal/Expression$Operator;"), (6, .class_ 70), (1, u "java/lang/Enum"), (11, u "symbol"), (0, u "Ljava/lang/String;"), (0, .fieldref 1 85), (0, .nameAndType 86 87), (0, u "precedence"), (0, u "I"), (2, u "operand"), (0, u "Lcom/example/conformal/conformal/Expression$Scalar;"), (2, u "result"), (42, u "()Z"), (64, u "isComparison"), (11, .class_ 215), (0, u "com/example/conformal/conformal/Expression")] 24

def k6c0 : Code := { maxStack := 2, maxLocals := 1, code := prog_16_method_7_code, exceptionTable := #[], attributes := #[] }
def k6m0 : Method := { name := "isComparison", desc := "()Z", sig := { parameters := [], returnType := some .boolean }, accessFlags := 0, code := some k6c0 }
/-- com/example/conformal/conformal/Expression$Operator -/
def k6 : Class := { plain "com/example/conformal/conformal/Expression$Operator" (some 5) with
  accessFlags := 16432
  interfaces := #[]
  cf := some (fileOf pool6 1 #[.nestHost 214] #[{ accessFlags := 0, nameIndex := 202, descriptorIndex := 137, attributes := #[] }] 16432 68 #[] #[{ accessFlags := 16409, nameIndex := 5, descriptorIndex := 6, attributes := #[] }, { accessFlags := 16409, nameIndex := 9, descriptorIndex := 6, attributes := #[] }, { accessFlags := 16409, nameIndex := 12, descriptorIndex := 6, attributes := #[] }, { accessFlags := 16409, nameIndex := 15, descriptorIndex := 6, attributes := #[] }, { accessFlags := 16409, nameIndex := 18, descriptorIndex := 6, attributes := #[] }, { accessFlags := 16409, nameIndex := 21, descriptorIndex := 6, attributes := #[] }, { accessFlags := 16409, nameIndex := 24, descriptorIndex := 6, attributes := #[] }, { accessFlags := 16409, nameIndex := 27, descriptorIndex := 6, attributes := #[] }, { accessFlags := 16409, nameIndex := 30, descriptorIndex := 6, attributes := #[] }, { accessFlags := 16409, nameIndex := 33, descriptorIndex := 6, attributes := #[] }, { accessFlags := 16409, nameIndex := 36, descriptorIndex := 6, attributes := #[] }, { accessFlags := 16409, nameIndex := 39, descriptorIndex := 6, attributes := #[] }, { accessFlags := 16409, nameIndex := 42, descriptorIndex := 6, attributes := #[] }, { accessFlags := 16409, nameIndex := 45, descriptorIndex := 6, attributes := #[] }, { accessFlags := 16409, nameIndex := 48, descriptorIndex := 6, attributes := #[] }, { accessFlags := 16409, nameIndex := 51, descriptorIndex := 6, attributes := #[] }, { accessFlags := 16409, nameIndex := 54, descriptorIndex := 6, attributes := #[] }, { accessFlags := 16409, nameIndex := 57, descriptorIndex := 6, attributes := #[] }, { accessFlags := 18, nameIndex := 82, descriptorIndex := 83, attributes := #[] }, { accessFlags := 18, nameIndex := 86, descriptorIndex := 87, attributes := #[] }, { accessFlags := 18, nameIndex := 90, descriptorIndex := 91, attributes := #[] }, { accessFlags := 18, nameIndex := 94, descriptorIndex := 91, attributes := #[] }, { accessFlags := 4122, nameIndex := 60, descriptorIndex := 61, attributes := #[] }])
  fields := #[{ name := "INTEGER", type := (.object "com/example/conformal/conformal/Expression$Operator"), accessFlags := 16409, slot := 0, constantValue := 0 }, { name := "STRING", type := (.object "com/example/conformal/conformal/Expression$Operator"), accessFlags := 16409, slot := 1, constantValue := 0 }, { name := "TRUE", type := (.object "com/example/conformal/conformal/Expression$Operator"), accessFlags := 16409, slot := 2, constantValue := 0 }, { name := "FALSE", type := (.object "com/example/conformal/conformal/Expression$Operator"), accessFlags := 16409, slot := 3, constantValue := 0 }, { name := "NAME", type := (.object "com/example/conformal/conformal/Expression$Operator"), accessFlags := 16409, slot := 4, constantValue := 0 }, { name := "CALL", type := (.object "com/example/conformal/conformal/Expression$Operator"), accessFlags := 16409, slot := 5, constantValue := 0 }, { name := "OR", type := (.object "com/example/conformal/conformal/Expression$Operator"), accessFlags := 16409, slot := 6, constantValue := 0 }, { name := "AND", type := (.object "com/example/conformal/conformal/Expression$Operator"), accessFlags := 16409, slot := 7, constantValue := 0 }, { name := "NOT", type := (.object "com/example/conformal/conformal/Expression$Operator"), accessFlags := 16409, slot := 8, constantValue := 0 }, { name := "EQUAL", type := (.object "com/example/conformal/conformal/Expression$Operator"), accessFlags := 16409, slot := 9, constantValue := 0 }, { name := "NOT_EQUAL", type := (.object "com/example/conformal/conformal/Expression$Operator"), accessFlags := 16409, slot := 10, constantValue := 0 }, { name := "LESS", type := (.object "com/example/conformal/conformal/Expression$Operator"), accessFlags := 16409, slot := 11, constantValue := 0 }, { name := "LESS_EQUAL", type := (.object "com/example/conformal/conformal/Expression$Operator"), accessFlags := 16409, slot := 12, constantValue := 0 }, { name := "GREATER", type := (.object "com/example/conformal/conformal/Expression$Operator"), accessFlags := 16409, slot := 13, constantValue := 0 }, { name := "GREATER_EQUAL", type := (.object "com/example/conformal/conformal/Expression$Operator"), accessFlags := 16409, slot := 14, constantValue := 0 }, { name := "ADD", type := (.object "com/example/conformal/conformal/Expression$Operator"), accessFlags := 16409, slot := 15, constantValue := 0 }, { name := "SUBTRACT", type := (.object "com/example/conformal/conformal/Expression$Operator"), accessFlags := 16409, slot := 16, constantValue := 0 }, { name := "NEGATE", type := (.object "com/example/conformal/conformal/Expression$Operator"), accessFlags := 16409, slot := 17, constantValue := 0 }, { name := "symbol", type := (.object "java/lang/String"), accessFlags := 18, slot := 3, constantValue := 0 }, { name := "precedence", type := .int, accessFlags := 18, slot := 4, constantValue := 0 }, { name := "operand", type := (.object "com/example/conformal/conformal/Expression$Scalar"), accessFlags := 18, slot := 5, constantValue := 0 }, { name := "result", type := (.object "com/example/conformal/conformal/Expression$Scalar"), accessFlags := 18, slot := 6, constantValue := 0 }, { name := "$VALUES", type := (.array (.object "com/example/conformal/conformal/Expression$Operator")), accessFlags := 4122, slot := 18, constantValue := 0 }]
  methods := #[k6m0]
  instanceTypes := #[(.object "java/lang/String"), .int, .int, (.object "java/lang/String"), .int, (.object "com/example/conformal/conformal/Expression$Scalar"), (.object "com/example/conformal/conformal/Expression$Scalar")]
  staticTypes := #[(.object "com/example/conformal/conformal/Expression$Operator"), (.object "com/example/conformal/conformal/Expression$Operator"), (.object "com/example/conformal/conformal/Expression$Operator"), (.object "com/example/conformal/conformal/Expression$Operator"), (.object "com/example/conformal/conformal/Expression$Operator"), (.object "com/example/conformal/conformal/Expression$Operator"), (.object "com/example/conformal/conformal/Expression$Operator"), (.object "com/example/conformal/conformal/Expression$Operator"), (.object "com/example/conformal/conformal/Expression$Operator"), (.object "com/example/conformal/conformal/Expression$Operator"), (.object "com/example/conformal/conformal/Expression$Operator"), (.object "com/example/conformal/conformal/Expression$Operator"), (.object "com/example/conformal/conformal/Expression$Operator"), (.object "com/example/conformal/conformal/Expression$Operator"), (.object "com/example/conformal/conformal/Expression$Operator"), (.object "com/example/conformal/conformal/Expression$Operator"), (.object "com/example/conformal/conformal/Expression$Operator"), (.object "com/example/conformal/conformal/Expression$Operator"), (.array (.object "com/example/conformal/conformal/Expression$Operator"))]
  resolved := Array.replicate 240 none
  statics := some 0 }

def pool7 : Array CpInfo := pool [(1, u "java/lang/Cloneable"), (0, .class_ 1), (0, u "java/lang/Object"), (0, .class_ 3)] 3

/-- java/lang/Cloneable -/
def k7 : Class := { plain "java/lang/Cloneable" (some 0) with
  accessFlags := 1537
  interfaces := #[]
  cf := some (fileOf pool7 2 #[] #[] 1537 4 #[] #[])
  fields := #[]
  methods := #[]
  instanceTypes := #[]
  staticTypes := #[]
  resolved := Array.replicate 8 none
  statics := none }

/-- the primitive byte -/
def k8 : Class := { plain "byte" none with kind := .primitive 'B', accessFlags := 0x411 }
/-- [B -/
def k9 : Class := { plain "[B" (some 0) with kind := .array 8 .byte, interfaces := #[7, 4], accessFlags := 1041 }

/-- the primitive int -/
def k10 : Class := { plain "int" none with kind := .primitive 'I', accessFlags := 0x411 }
/-- [I -/
def k11 : Class := { plain "[I" (some 0) with kind := .array 10 .int, interfaces := #[7, 4], accessFlags := 1041 }

/-- [Lcom/example/conformal/conformal/Expression$Operator; -/
def k12 : Class := { plain "[Lcom/example/conformal/conformal/Expression$Operator;" (some 0) with kind := .array 6 (.object "com/example/conformal/conformal/Expression$Operator"), interfaces := #[7, 4], accessFlags := 1041 }

def heap : Heap := #[{ cls := 6, slots := #[.ref 1, .ref 2, .ref 3, .ref 4, .ref 5, .ref 6, .ref 7, .ref 8, .ref 9, .ref 10, .ref 11, .ref 12, .ref 13, .ref 14, .ref 15, .ref 16, .ref 17, .ref 18, .null], vm := .statics 6 },
  { cls := 6, slots := #[.null, .int 0, .int 0, .null, .int 0, .null, .null], vm := .none },
  { cls := 6, slots := #[.null, .int 1, .int 0, .null, .int 0, .null, .null], vm := .none },
  { cls := 6, slots := #[.null, .int 2, .int 0, .null, .int 0, .null, .null], vm := .none },
  { cls := 6, slots := #[.null, .int 3, .int 0, .null, .int 0, .null, .null], vm := .none },
  { cls := 6, slots := #[.null, .int 4, .int 0, .null, .int 0, .null, .null], vm := .none },
  { cls := 6, slots := #[.null, .int 5, .int 0, .null, .int 0, .null, .null], vm := .none },
  { cls := 6, slots := #[.null, .int 6, .int 0, .null, .int 1, .null, .null], vm := .none },
  { cls := 6, slots := #[.null, .int 7, .int 0, .null, .int 2, .null, .null], vm := .none },
  { cls := 6, slots := #[.null, .int 8, .int 0, .null, .int 3, .null, .null], vm := .none },
  { cls := 6, slots := #[.null, .int 9, .int 0, .null, .int 4, .null, .null], vm := .none },
  { cls := 6, slots := #[.null, .int 10, .int 0, .null, .int 4, .null, .null], vm := .none },
  { cls := 6, slots := #[.null, .int 11, .int 0, .null, .int 4, .null, .null], vm := .none },
  { cls := 6, slots := #[.null, .int 12, .int 0, .null, .int 4, .null, .null], vm := .none },
  { cls := 6, slots := #[.null, .int 13, .int 0, .null, .int 4, .null, .null], vm := .none },
  { cls := 6, slots := #[.null, .int 14, .int 0, .null, .int 4, .null, .null], vm := .none },
  { cls := 6, slots := #[.null, .int 15, .int 0, .null, .int 5, .null, .null], vm := .none },
  { cls := 6, slots := #[.null, .int 16, .int 0, .null, .int 5, .null, .null], vm := .none },
  { cls := 6, slots := #[.null, .int 17, .int 0, .null, .int 6, .null, .null], vm := .none }]
def classes : Array Class := #[k0, k1, k2, k3, k4, k5, k6, k7, k8, k9, k10, k11, k12]
def interned : List (Array UInt16 × Addr) := []
def slotsUsed : Nat := 145
def theMethod : MethodId := ⟨1, 1⟩
def args0 : Array Value := #[.int 1]
def aboutOver (below : List Frame) : State where
  vm := { classes := classes, interned := interned.toArray }
  heap := heap
  slotsUsed := slotsUsed
  threads := #[{ frames := .invoking theMethod args0 :: below }]
def below0 : List Frame := [.native { method := ⟨0, 0⟩, args := #[] }]
def about1 : State := aboutOver below0
def p0 : Program := .bare "" "" ""
def e0 : Env := launch0.env 0 0 0
theorem w_frames : about1.frames = Frame.invoking theMethod args0 :: below0 := rfl
set_option maxRecDepth 65536 in
theorem w_args : argsFit about1.vm theMethod args0 = true := by decide +kernel
set_option maxRecDepth 65536 in
theorem w_heap : heapFits about1 = true := by decide +kernel
set_option maxRecDepth 65536 in
theorem w_runnable : about1.curStatus? = some .runnable := by decide +kernel
set_option maxRecDepth 65536 in
theorem w_alone : about1.alone = true := by decide +kernel
set_option maxRecDepth 65536 in
theorem w_named : about1.methodNamed? x = some theMethod := by decide +kernel
set_option maxRecDepth 65536 in
theorem w_hears : about1.hears theMethod below0 = true := by decide +kernel
set_option maxRecDepth 65536 in
theorem w_ripe : about1.ripe theMethod args0 below0 = true := by decide +kernel
theorem w_running : about1.status = .running := rfl
set_option maxRecDepth 65536 in
theorem w_room : about1.hasRoom e0.platform room_1 = true :=
  launch0.hasRoom_least _ room_1 (by decide +kernel) (by decide +kernel) (by decide +kernel) (by decide +kernel) (by decide +kernel) (by decide +kernel)
theorem allAtoms_all (ts : List Jvm.Cond) (a : Array Jvm.Value) (st : Jvm.State) : (allAtoms ts).before a st = ts.all (fun c => c.before a st) := by
  induction ts with
  | nil => rfl
  | cons c t ih =>
    show (Jvm.Cond.and c (allAtoms t)).before a st = _
    rw [Jvm.Cond.before_and, ih, List.all_cons]
def words1 : List Jvm.Cond := Jvm.Cond.code x code maxLocals ret :: tables_1
/-- a 'code' word, met by the world's own term for the bytes: nothing is compared byte by byte -/
theorem code_word {y : MethodName} {bytes : ByteArray} {mx : Nat} {rt : Option FieldType} {a : Array Value} {s : State} {m : MethodId} {meth : Method} {c : Code} (h1 : s.methodNamed? y = some m) (h2 : s.vm.method? m = some meth) (h3 : meth.code = some c) (h4 : c.code = bytes)
    (h5 : (c.maxLocals == mx && c.exceptionTable.isEmpty && decide (c.maxStack ≤ mostOperands) && decide (meth.sig.returnType = rt) && !meth.locks && decide (parseMethodDescriptor y.desc = some meth.sig)) = true) : (Jvm.Cond.code y bytes mx rt).before a s = true := by
  simp only [Bool.and_eq_true, beq_iff_eq, Bool.not_eq_true', decide_eq_true_eq] at h5
  obtain ⟨⟨⟨⟨⟨g1, g2⟩, g3⟩, g4⟩, g5⟩, g6⟩ := h5
  simp [Cond.before, Cond.holds, Cond.value, h1, h2, h3, h4, g1, g2, g3, g4, g5, g6]
def isCode : Jvm.Cond → Bool
  | .code _ _ _ _ => true
  | _ => false
theorem all_split {L : List Jvm.Cond} {P : Jvm.Cond → Bool} (h1 : L.all (fun c => isCode c || P c) = true) (h2 : ∀ c ∈ L.filter isCode, P c = true) : L.all P = true := by
  refine List.all_eq_true.mpr fun c hc => ?_
  have h := List.all_eq_true.mp h1 c hc
  rcases Bool.eq_false_or_eq_true (isCode c) with hi | hi
  · exact h2 c (List.mem_filter.mpr ⟨hc, hi⟩)
  · simpa [hi] using h
set_option maxRecDepth 65536 in
theorem w_c0 : (Jvm.Cond.code x code maxLocals ret).before args0 about1 = true := code_word (m := ⟨1, 1⟩) (meth := k1m1) (c := k1c1) (by decide +kernel) rfl rfl rfl (by decide +kernel)
set_option maxRecDepth 65536 in
theorem w_c1 : (Jvm.Cond.code ({ cls := "com/example/conformal/conformal/Expression$Operator", name := "isComparison", desc := "()Z" } : Jvm.MethodName) prog_16_method_7_code (1 : Nat) (Option.some Jvm.ClassFile.FieldType.boolean)).before args0 about1 = true := code_word (m := ⟨6, 0⟩) (meth := k6m0) (c := k6c0) (by decide +kernel) rfl rfl rfl (by decide +kernel)
def codes1 : List Jvm.Cond := [Jvm.Cond.code x code maxLocals ret, Jvm.Cond.code ({ cls := "com/example/conformal/conformal/Expression$Operator", name := "isComparison", desc := "()Z" } : Jvm.MethodName) prog_16_method_7_code (1 : Nat) (Option.some Jvm.ClassFile.FieldType.boolean)]
set_option maxRecDepth 65536 in
theorem codes_eq : words1.filter isCode = codes1 := rfl
theorem w_codes : ∀ c ∈ words1.filter isCode, c.before args0 about1 = true := by
  rw [codes_eq]
  intro c hc
  simp only [codes1, List.mem_cons, List.not_mem_nil, or_false] at hc
  rcases hc with rfl | rfl
  · exact w_c0
  · exact w_c1
set_option maxRecDepth 65536 in
theorem w_t1 : (words1.take 24).all (fun c => isCode c || c.before args0 about1) = true := by decide +kernel
set_option maxRecDepth 65536 in
theorem w_t2 : ((words1.drop 24).take 24).all (fun c => isCode c || c.before args0 about1) = true := by decide +kernel
set_option maxRecDepth 65536 in
theorem w_t3 : ((words1.drop 24).drop 24).all (fun c => isCode c || c.before args0 about1) = true := by decide +kernel
theorem w_tables : (allAtoms (Jvm.Cond.code x code maxLocals ret :: tables_1)).before args0 about1 = true := by
  rw [allAtoms_all]
  show words1.all (fun c => c.before args0 about1) = true
  refine all_split ?_ w_codes
  rw [← List.take_append_drop 24 words1, List.all_append, w_t1, ← List.take_append_drop 24 (words1.drop 24), List.all_append, w_t2, w_t3]
  rfl
set_option maxRecDepth 65536 in
theorem w_case : (Jvm.Cond.and given_1 narrow_1).before args0 about1 = true := by decide +kernel
theorem w_applies : (headSpec (Jvm.Cond.code x code maxLocals ret :: tables_1) room_1).applies x e0.platform about1 = true :=
  (Spec.applies_iff w_frames).mpr ⟨w_running, w_runnable, w_alone, w_named, w_hears, w_ripe, w_room, w_tables⟩
theorem atStart : AtStart classFile x code maxLocals ret World_1 tables_1 room_1 Calls_1 rest_1 Pre_1 launch0 p0 e0 about1 theMethod args0 below0 :=
  ⟨lists_1, trivial, launch0.admits_env _ _ _, launch0.least_env, fairChoices_fair.cas, fairChoices_fair.clock, w_frames, w_args, w_heap, w_applies, trivial, trivial, w_case⟩
end start1
theorem witness_1 : WitnessClaimed_1 := ⟨start1.p0, start1.e0, start1.about1, start1.theMethod, start1.args0, start1.below0, start1.atStart⟩
end Jvm.Pilot.@@N@@
