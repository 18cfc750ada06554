import JvmDerived
import JvmDerived.Pilot.@@N@@Statement
import JvmDerived.Pilot.@@N@@Code
set_option linter.unusedVariables false
set_option linter.unusedSimpArgs false
namespace Jvm.RoadKit
open Sem ClassFile Op Lib Jvm.Stand Jvm.Free Jvm.LawKit
section New
variable {p : Program} {l : Launch} {e : Env} {R : Room} {s : State} {m : MethodId} {args : Array Value} {below : List Frame} {meth : Method} {c : Code} {T : State} {locs : List Loc} {cells slots : Nat}
theorem retI (X : Stand p l e R s m args below meth c T locs cells slots) (hx : p.tables.exec = Jvm.exec) {pc : Nat} {Ls : Array Slot} {z : Int32} {rest : List Value} (hret : meth.sig.returnType = some .int) (hd : decode c.code pc = .ok (.ireturn, 1)) {fs : List Frame}
    (hl : ∀ (f : JFrame) (acts : List Action), f.method = m → f.locked = none → f.entered = [] → (doReturn e (T.setTop f) acts (some (.int z))).1 = T.setFrames fs) : Steps p.tables e below (T.setTop (mkF m pc Ls (.int z :: rest))) (T.setFrames fs) := by
  have hm' : T.vm.method? m = some meth := X.method'
  have hn : narrow .int (.int z) = .int z := rfl
  show Steps p.tables e below (T.setTop { method := m, pc := pc, locals := Ls, stack := _ :: rest, locked := none }) _
  jvm_step X.here [X.here.top, hx, hd, hm', hret, hn]
  first | (intro acts; rw [hl _ acts rfl rfl rfl]) | rw [hl _ _ rfl rfl rfl]
  exact Steps.refl _
end New
end Jvm.RoadKit
@@BLOCK:NumsL.lean.txt@@
namespace Jvm.Pilot.@@N@@
open Jvm Jvm.ClassFile Sem Op Lib Jvm.Free Jvm.Stand Jvm.LawKit Jvm.RoadKit Bundle Jvm.Pilot.@@N@@.Jvm.D
/-- a run from here that ends well -/
def own_G (p : Program) (e : Env) (below : List Frame) (P : Outcome → State → Prop) (S : State) : Prop := ∃ s₂ o, Steps p.tables e below S s₂ ∧ s₂.status = .running ∧ Ended s₂ below o ∧ P o s₂
theorem own_go {p : Program} {e : Env} {below : List Frame} {P : Outcome → State → Prop} {S : State} (S' : State) (k : ∀ t, Steps p.tables e below S' t → Steps p.tables e below S t) (h : own_G p e below P S') : own_G p e below P S := by
  obtain ⟨s₂, o, h1, h2⟩ := h
  exact ⟨s₂, o, k _ h1, h2⟩
theorem own_one {x : Slot} (h : One x) : (match x with | .second => False | .val old => old.category = 1 | .unset => True) := by
  rcases h with rfl | ⟨w, rfl, hw⟩
  · trivial
  · exact hw
theorem own_selp {s : State} {args : Array Value} {D : String} {y z : MethodName} (h : (Cond.selects D z z).before args s = true) (hc : z.cls = y.cls) (hpriv : s.PrivateAt y) (hinst : (Cond.instanceMethod y).before args s = true) (hy : y.cls ≠ "java/lang/invoke/MethodHandle" ∧ y.cls ≠ "java/lang/invoke/VarHandle") : (Cond.selects y.cls y y).before args s = true := by
  obtain ⟨c, r, m, q1, q2, q3, q4, mk, hk, hi⟩ := Cond.selects_spec h
  exact selects_self_of_private (hc ▸ findClass_of_methodNamed q3) hk hi hpriv hinst hy
theorem own_same {s : State} {args : Array Value} {D : String} {y z : MethodName} (hinst : (Cond.instanceMethod y).before args s = true) (hsel : (Cond.selects D z z).before args s = true) (hc : z.cls = y.cls) (hy : y.cls ≠ "java/lang/invoke/MethodHandle" ∧ y.cls ≠ "java/lang/invoke/VarHandle") : (Cond.sameMethod y.cls y.cls y.name y.desc).before args s = true := by
  obtain ⟨mk, methM, hnamed, hmethM, -, -⟩ := Cond.instanceMethod_spec hinst
  obtain ⟨c, r, m, q1, q2, q3, q4, k, hk, hi⟩ := Cond.selects_spec hsel
  have hfound := State.methodFound?_of_named hnamed hy
  have hcn := findClass_of_methodNamed hnamed
  have e : m.cls = mk.cls := Option.some.inj ((findClass_of_methodNamed q3).symm.trans (hc ▸ hcn))
  rw [e] at hk
  obtain ⟨yc, yn, yd⟩ := y
  simp_all [Cond.before, Cond.holds, Cond.value]
theorem own_nf {s : State} {args : Array Value} {D : String} {y z : MethodName} (hsel : (Cond.selects D z z).before args s = true) (hc : z.cls = y.cls) : NotFace s y := fun r0 h0 => by
  obtain ⟨c, r, m, q1, q2, q3, q4, k, hk, hi⟩ := Cond.selects_spec hsel
  have e : m.cls = r0.cls := Option.some.inj ((findClass_of_methodNamed q3).symm.trans (hc ▸ findClass_of_methodNamed h0))
  exact ⟨k, e ▸ hk, hi⟩
theorem own_lt {x y : Int64} : lcmpW x y < 0 ↔ x < y := by rw [lcW]; exact lc_lt x y
theorem own_gt {x y : Int64} : (0 : Int32) < lcmpW x y ↔ y < x := by rw [lcW]; exact lc_gt x y
theorem own_eq {x y : Int64} : lcmpW x y = 0 ↔ x = y := by rw [lcW]; exact lc_eq x y
theorem own_extK {Z : State} {h h' : Heap} {ws : List Addr} (O : Ext Z.heap h) (K : Keep h h' ws) (q : ∀ x ∈ ws, Z.heap.size ≤ x) : Ext Z.heap h' :=
  (Old.keep (n0 := Z.heap.size) ⟨rfl, O⟩ K q).2
theorem own_ext {h h1 h2 : Heap} (E : Ext h h1) (F : Ext h1 h2) : Ext h h2 := ⟨Nat.le_trans E.1 F.1, fun a c q => F.2 a c (E.2 a c q)⟩
theorem own_extW {Z : State} {h h' : Heap} {a : Addr} {sl : Nat} {v : Value} (O : Ext Z.heap h) (W : Wr h h' a sl v) (q : Z.heap.size ≤ a) : Ext Z.heap h' := own_extK O (Keep.of_wr W) (allS q all0)
theorem own_fldI {s : State} {args : Array Value} {t : Term} {C n d : String} {k : Int32} {a : Addr} (h : (Cond.eq (Term.field t C n d) (Term.int k)).value args s none s [] = some true) (ev : t.eval args s none [] s = some (.ref a)) : Fld s s.heap a C n d (.int k) := by
  obtain ⟨x, y, h1, h2, h3, -⟩ := cmp_v (Or.inl h)
  have h4 : s.fieldOf? a C n d = some x := (fld_at ev).symm.trans h1
  have h5 : y = .int k := (Option.some.inj (h2.symm.trans (Term.int_eval k)))
  subst h5
  cases x with
  | int z =>
    simp only [Cond.value, h1, h2] at h
    have e : z = k := by simpa using h
    subst e
    exact Fld.start h4
  | _ => simp [Kin, Value.isRef] at h3
theorem own_fldV {s : State} {args : Array Value} {t u : Term} {C n d : String} {b : Addr} {a : Addr} (h : (Cond.eq (Term.field t C n d) u).value args s none s [] = some true) (ev : t.eval args s none [] s = some (.ref a)) (eu : u.eval args s none [] s = some (.ref b)) : Fld s s.heap a C n d (.ref b) := by
  obtain ⟨x, y, h1, h2, h3, -⟩ := cmp_v (Or.inl h)
  have h4 : s.fieldOf? a C n d = some x := (fld_at ev).symm.trans h1
  have h5 : y = .ref b := (Option.some.inj (h2.symm.trans eu))
  subst h5
  cases x with
  | ref z =>
    simp only [Cond.value, h1, h2] at h
    have e : z = b := by simpa using h
    subst e
    exact Fld.start h4
  | null => simp [Cond.value, h1, h2] at h
  | _ => simp [Kin, Value.isRef] at h3
theorem own_elemI {s : State} {args : Array Value} {t : Term} {j k : Int32} {a : Addr} {cl : Cell} (h : (Cond.eq (Term.elem t (Term.int j)) (Term.int k)).value args s none s [] = some true) (ev : t.eval args s none [] s = some (.ref a)) (hc : s.heap[a]? = some cl) : ¬ (j < 0 ∨ cl.slots.size ≤ j.toNatClampNeg) ∧ cl.slots[j.toNatClampNeg]? = some (.int k) := by
  obtain ⟨x, y, h1, h2, h3, -⟩ := cmp_v (Or.inl h)
  have h4 := elem_in h1 ev (Term.int_eval j) hc
  have h5 : y = .int k := (Option.some.inj (h2.symm.trans (Term.int_eval k)))
  subst h5
  cases x with
  | int z =>
    simp only [Cond.value, h1, h2] at h
    have e : z = k := by simpa using h
    subst e
    exact h4
  | _ => simp [Kin, Value.isRef] at h3
theorem own_elemV {s : State} {args : Array Value} {t u : Term} {j : Int32} {a b : Addr} {cl : Cell} (h : (Cond.eq (Term.elem t (Term.int j)) u).value args s none s [] = some true) (ev : t.eval args s none [] s = some (.ref a)) (eu : u.eval args s none [] s = some (.ref b)) (hc : s.heap[a]? = some cl) : ¬ (j < 0 ∨ cl.slots.size ≤ j.toNatClampNeg) ∧ cl.slots[j.toNatClampNeg]? = some (.ref b) := by
  obtain ⟨x, y, h1, h2, h3, -⟩ := cmp_v (Or.inl h)
  have h4 := elem_in h1 ev (Term.int_eval j) hc
  have h5 : y = .ref b := (Option.some.inj (h2.symm.trans eu))
  subst h5
  cases x with
  | ref z =>
    simp only [Cond.value, h1, h2] at h
    have e : z = b := by simpa using h
    subst e
    exact h4
  | null => simp [Cond.value, h1, h2] at h
  | _ => simp [Kin, Value.isRef] at h3
theorem own_fldN {s : State} {args : Array Value} {t : Term} {C n d : String} {a : Addr} (h : (Cond.eq (Term.field t C n d) Term.null).value args s none s [] = some true) (ev : t.eval args s none [] s = some (.ref a)) : Fld s s.heap a C n d .null :=
  Fld.start ((fld_at ev).symm.trans (null_v h))
def own_W (Z : State) (a_INTEGER : Addr) (a_NOT : Addr) (a_NEGATE : Addr) (a_FALSE : Addr) (a_TRUE : Addr) (a_STRING : Addr) (a_AND : Addr) (a_LESS : Addr) (a_NAME : Addr) (a_LESS_EQUAL : Addr) (a_SUBTRACT : Addr) (a_ADD : Addr) (a_NOT_EQUAL : Addr) (a_GREATER : Addr) (a_OR : Addr) (a_GREATER_EQUAL : Addr) (a_CALL : Addr) (a_EQUAL : Addr) : Prop := (Sta Z Z.heap "com/example/conformal/conformal/Expression$Operator" "INTEGER" "Lcom/example/conformal/conformal/Expression$Operator;" (.ref a_INTEGER)) ∧ (Exa Z Z.heap a_INTEGER "com/example/conformal/conformal/Expression$Operator") ∧ (Sta Z Z.heap "com/example/conformal/conformal/Expression$Operator" "NOT" "Lcom/example/conformal/conformal/Expression$Operator;" (.ref a_NOT)) ∧ (Exa Z Z.heap a_NOT "com/example/conformal/conformal/Expression$Operator") ∧ (Sta Z Z.heap "com/example/conformal/conformal/Expression$Operator" "NEGATE" "Lcom/example/conformal/conformal/Expression$Operator;" (.ref a_NEGATE)) ∧ (Exa Z Z.heap a_NEGATE "com/example/conformal/conformal/Expression$Operator") ∧ (Sta Z Z.heap "com/example/conformal/conformal/Expression$Operator" "FALSE" "Lcom/example/conformal/conformal/Expression$Operator;" (.ref a_FALSE)) ∧ (Exa Z Z.heap a_FALSE "com/example/conformal/conformal/Expression$Operator") ∧ (Sta Z Z.heap "com/example/conformal/conformal/Expression$Operator" "TRUE" "Lcom/example/conformal/conformal/Expression$Operator;" (.ref a_TRUE)) ∧ (Exa Z Z.heap a_TRUE "com/example/conformal/conformal/Expression$Operator") ∧ (Sta Z Z.heap "com/example/conformal/conformal/Expression$Operator" "STRING" "Lcom/example/conformal/conformal/Expression$Operator;" (.ref a_STRING)) ∧ (Exa Z Z.heap a_STRING "com/example/conformal/conformal/Expression$Operator") ∧ (Sta Z Z.heap "com/example/conformal/conformal/Expression$Operator" "AND" "Lcom/example/conformal/conformal/Expression$Operator;" (.ref a_AND)) ∧ (Exa Z Z.heap a_AND "com/example/conformal/conformal/Expression$Operator") ∧ (Sta Z Z.heap "com/example/conformal/conformal/Expression$Operator" "LESS" "Lcom/example/conformal/conformal/Expression$Operator;" (.ref a_LESS)) ∧ (Exa Z Z.heap a_LESS "com/example/conformal/conformal/Expression$Operator") ∧ (Sta Z Z.heap "com/example/conformal/conformal/Expression$Operator" "NAME" "Lcom/example/conformal/conformal/Expression$Operator;" (.ref a_NAME)) ∧ (Exa Z Z.heap a_NAME "com/example/conformal/conformal/Expression$Operator") ∧ (Sta Z Z.heap "com/example/conformal/conformal/Expression$Operator" "LESS_EQUAL" "Lcom/example/conformal/conformal/Expression$Operator;" (.ref a_LESS_EQUAL)) ∧ (Exa Z Z.heap a_LESS_EQUAL "com/example/conformal/conformal/Expression$Operator") ∧ (Sta Z Z.heap "com/example/conformal/conformal/Expression$Operator" "SUBTRACT" "Lcom/example/conformal/conformal/Expression$Operator;" (.ref a_SUBTRACT)) ∧ (Exa Z Z.heap a_SUBTRACT "com/example/conformal/conformal/Expression$Operator") ∧ (Sta Z Z.heap "com/example/conformal/conformal/Expression$Operator" "ADD" "Lcom/example/conformal/conformal/Expression$Operator;" (.ref a_ADD)) ∧ (Exa Z Z.heap a_ADD "com/example/conformal/conformal/Expression$Operator") ∧ (Sta Z Z.heap "com/example/conformal/conformal/Expression$Operator" "NOT_EQUAL" "Lcom/example/conformal/conformal/Expression$Operator;" (.ref a_NOT_EQUAL)) ∧ (Exa Z Z.heap a_NOT_EQUAL "com/example/conformal/conformal/Expression$Operator") ∧ (Sta Z Z.heap "com/example/conformal/conformal/Expression$Operator" "GREATER" "Lcom/example/conformal/conformal/Expression$Operator;" (.ref a_GREATER)) ∧ (Exa Z Z.heap a_GREATER "com/example/conformal/conformal/Expression$Operator") ∧ (Sta Z Z.heap "com/example/conformal/conformal/Expression$Operator" "OR" "Lcom/example/conformal/conformal/Expression$Operator;" (.ref a_OR)) ∧ (Exa Z Z.heap a_OR "com/example/conformal/conformal/Expression$Operator") ∧ (Sta Z Z.heap "com/example/conformal/conformal/Expression$Operator" "GREATER_EQUAL" "Lcom/example/conformal/conformal/Expression$Operator;" (.ref a_GREATER_EQUAL)) ∧ (Exa Z Z.heap a_GREATER_EQUAL "com/example/conformal/conformal/Expression$Operator") ∧ (Sta Z Z.heap "com/example/conformal/conformal/Expression$Operator" "CALL" "Lcom/example/conformal/conformal/Expression$Operator;" (.ref a_CALL)) ∧ (Exa Z Z.heap a_CALL "com/example/conformal/conformal/Expression$Operator") ∧ (Sta Z Z.heap "com/example/conformal/conformal/Expression$Operator" "EQUAL" "Lcom/example/conformal/conformal/Expression$Operator;" (.ref a_EQUAL)) ∧ (Exa Z Z.heap a_EQUAL "com/example/conformal/conformal/Expression$Operator") ∧ (Fld Z Z.heap a_INTEGER "java/lang/Enum" "ordinal" "I" (.int (0 : Int32))) ∧ (Fld Z Z.heap a_NOT "java/lang/Enum" "ordinal" "I" (.int (8 : Int32))) ∧ (Fld Z Z.heap a_NEGATE "java/lang/Enum" "ordinal" "I" (.int (17 : Int32))) ∧ (Fld Z Z.heap a_FALSE "java/lang/Enum" "ordinal" "I" (.int (3 : Int32))) ∧ (Fld Z Z.heap a_TRUE "java/lang/Enum" "ordinal" "I" (.int (2 : Int32))) ∧ (Fld Z Z.heap a_STRING "java/lang/Enum" "ordinal" "I" (.int (1 : Int32))) ∧ (Fld Z Z.heap a_AND "java/lang/Enum" "ordinal" "I" (.int (7 : Int32))) ∧ (Fld Z Z.heap a_LESS "java/lang/Enum" "ordinal" "I" (.int (11 : Int32))) ∧ (Fld Z Z.heap a_NAME "java/lang/Enum" "ordinal" "I" (.int (4 : Int32))) ∧ (Fld Z Z.heap a_LESS_EQUAL "java/lang/Enum" "ordinal" "I" (.int (12 : Int32))) ∧ (Fld Z Z.heap a_SUBTRACT "java/lang/Enum" "ordinal" "I" (.int (16 : Int32))) ∧ (Fld Z Z.heap a_ADD "java/lang/Enum" "ordinal" "I" (.int (15 : Int32))) ∧ (Fld Z Z.heap a_NOT_EQUAL "java/lang/Enum" "ordinal" "I" (.int (10 : Int32))) ∧ (Fld Z Z.heap a_GREATER "java/lang/Enum" "ordinal" "I" (.int (13 : Int32))) ∧ (Fld Z Z.heap a_OR "java/lang/Enum" "ordinal" "I" (.int (6 : Int32))) ∧ (Fld Z Z.heap a_GREATER_EQUAL "java/lang/Enum" "ordinal" "I" (.int (14 : Int32))) ∧ (Fld Z Z.heap a_CALL "java/lang/Enum" "ordinal" "I" (.int (5 : Int32))) ∧ (Fld Z Z.heap a_EQUAL "java/lang/Enum" "ordinal" "I" (.int (9 : Int32)))
theorem own_case {i : Int32} {k : Int} (c : Int32) (h : i.toInt = k) (hc : c.toInt = k) : i = c := Int32.toInt_inj.mp (h.trans hc.symm)
theorem own_mask (x : Int32) : 0 ≤ (x &&& 2147483647).toInt := by
  have e := Jvm.Kit.i32_mask x 2147483647 (k := 31) (by decide) (by decide)
  omega
theorem own_mod (x n : Int32) (hn : 0 < n.toInt) : 0 ≤ ((x &&& 2147483647) % n).toInt ∧ ((x &&& 2147483647) % n).toInt < n.toInt := by
  rw [Jvm.Kit.i32_rem_nonneg (own_mask x)]
  exact ⟨Int.emod_nonneg _ (by omega), Int.emod_lt_of_pos _ hn⟩
theorem own_and3 (x : Int32) : (x &&& 3) = 0 ∨ (x &&& 3) = 1 ∨ (x &&& 3) = 2 ∨ (x &&& 3) = 3 := by
  have e := Jvm.Kit.i32_mask x 3 (k := 2) (by decide) (by decide)
  rcases (by omega : (x &&& 3).toInt = 0 ∨ (x &&& 3).toInt = 1 ∨ (x &&& 3).toInt = 2 ∨ (x &&& 3).toInt = 3) with q | q | q | q
  · exact Or.inl (own_case 0 q (by decide))
  · exact Or.inr (Or.inl (own_case 1 q (by decide)))
  · exact Or.inr (Or.inr (Or.inl (own_case 2 q (by decide))))
  · exact Or.inr (Or.inr (Or.inr (own_case 3 q (by decide))))
def own_pick (i : Int32) (a_INTEGER : Addr) (a_STRING : Addr) (a_TRUE : Addr) (a_FALSE : Addr) (a_NAME : Addr) (a_CALL : Addr) (a_OR : Addr) (a_AND : Addr) (a_NOT : Addr) (a_EQUAL : Addr) (a_NOT_EQUAL : Addr) (a_LESS : Addr) (a_LESS_EQUAL : Addr) (a_GREATER : Addr) (a_GREATER_EQUAL : Addr) (a_ADD : Addr) (a_SUBTRACT : Addr) (a_NEGATE : Addr) : Addr := if i = 0 then a_INTEGER else if i = 1 then a_STRING else if i = 2 then a_TRUE else if i = 3 then a_FALSE else if i = 4 then a_NAME else if i = 5 then a_CALL else if i = 6 then a_OR else if i = 7 then a_AND else if i = 8 then a_NOT else if i = 9 then a_EQUAL else if i = 10 then a_NOT_EQUAL else if i = 11 then a_LESS else if i = 12 then a_LESS_EQUAL else if i = 13 then a_GREATER else if i = 14 then a_GREATER_EQUAL else if i = 15 then a_ADD else if i = 16 then a_SUBTRACT else a_NEGATE
theorem own_pick_exa {Z : State} {a_INTEGER : Addr} {a_NOT : Addr} {a_NEGATE : Addr} {a_FALSE : Addr} {a_TRUE : Addr} {a_STRING : Addr} {a_AND : Addr} {a_LESS : Addr} {a_NAME : Addr} {a_LESS_EQUAL : Addr} {a_SUBTRACT : Addr} {a_ADD : Addr} {a_NOT_EQUAL : Addr} {a_GREATER : Addr} {a_OR : Addr} {a_GREATER_EQUAL : Addr} {a_CALL : Addr} {a_EQUAL : Addr} (i : Int32) (w : own_W Z a_INTEGER a_NOT a_NEGATE a_FALSE a_TRUE a_STRING a_AND a_LESS a_NAME a_LESS_EQUAL a_SUBTRACT a_ADD a_NOT_EQUAL a_GREATER a_OR a_GREATER_EQUAL a_CALL a_EQUAL) : Exa Z Z.heap (own_pick i a_INTEGER a_STRING a_TRUE a_FALSE a_NAME a_CALL a_OR a_AND a_NOT a_EQUAL a_NOT_EQUAL a_LESS a_LESS_EQUAL a_GREATER a_GREATER_EQUAL a_ADD a_SUBTRACT a_NEGATE) "com/example/conformal/conformal/Expression$Operator" := by
  obtain ⟨S_INTEGER, X_INTEGER, S_NOT, X_NOT, S_NEGATE, X_NEGATE, S_FALSE, X_FALSE, S_TRUE, X_TRUE, S_STRING, X_STRING, S_AND, X_AND, S_LESS, X_LESS, S_NAME, X_NAME, S_LESS_EQUAL, X_LESS_EQUAL, S_SUBTRACT, X_SUBTRACT, S_ADD, X_ADD, S_NOT_EQUAL, X_NOT_EQUAL, S_GREATER, X_GREATER, S_OR, X_OR, S_GREATER_EQUAL, X_GREATER_EQUAL, S_CALL, X_CALL, S_EQUAL, X_EQUAL, F_INTEGER_ordinal, F_NOT_ordinal, F_NEGATE_ordinal, F_FALSE_ordinal, F_TRUE_ordinal, F_STRING_ordinal, F_AND_ordinal, F_LESS_ordinal, F_NAME_ordinal, F_LESS_EQUAL_ordinal, F_SUBTRACT_ordinal, F_ADD_ordinal, F_NOT_EQUAL_ordinal, F_GREATER_ordinal, F_OR_ordinal, F_GREATER_EQUAL_ordinal, F_CALL_ordinal, F_EQUAL_ordinal⟩ := w
  unfold own_pick
  by_cases q0 : i = 0
  · rw [if_pos q0]; exact X_INTEGER
  rw [if_neg q0]
  by_cases q1 : i = 1
  · rw [if_pos q1]; exact X_STRING
  rw [if_neg q1]
  by_cases q2 : i = 2
  · rw [if_pos q2]; exact X_TRUE
  rw [if_neg q2]
  by_cases q3 : i = 3
  · rw [if_pos q3]; exact X_FALSE
  rw [if_neg q3]
  by_cases q4 : i = 4
  · rw [if_pos q4]; exact X_NAME
  rw [if_neg q4]
  by_cases q5 : i = 5
  · rw [if_pos q5]; exact X_CALL
  rw [if_neg q5]
  by_cases q6 : i = 6
  · rw [if_pos q6]; exact X_OR
  rw [if_neg q6]
  by_cases q7 : i = 7
  · rw [if_pos q7]; exact X_AND
  rw [if_neg q7]
  by_cases q8 : i = 8
  · rw [if_pos q8]; exact X_NOT
  rw [if_neg q8]
  by_cases q9 : i = 9
  · rw [if_pos q9]; exact X_EQUAL
  rw [if_neg q9]
  by_cases q10 : i = 10
  · rw [if_pos q10]; exact X_NOT_EQUAL
  rw [if_neg q10]
  by_cases q11 : i = 11
  · rw [if_pos q11]; exact X_LESS
  rw [if_neg q11]
  by_cases q12 : i = 12
  · rw [if_pos q12]; exact X_LESS_EQUAL
  rw [if_neg q12]
  by_cases q13 : i = 13
  · rw [if_pos q13]; exact X_GREATER
  rw [if_neg q13]
  by_cases q14 : i = 14
  · rw [if_pos q14]; exact X_GREATER_EQUAL
  rw [if_neg q14]
  by_cases q15 : i = 15
  · rw [if_pos q15]; exact X_ADD
  rw [if_neg q15]
  by_cases q16 : i = 16
  · rw [if_pos q16]; exact X_SUBTRACT
  rw [if_neg q16]
  exact X_NEGATE
theorem own_pick_ord {Z : State} {a_INTEGER : Addr} {a_NOT : Addr} {a_NEGATE : Addr} {a_FALSE : Addr} {a_TRUE : Addr} {a_STRING : Addr} {a_AND : Addr} {a_LESS : Addr} {a_NAME : Addr} {a_LESS_EQUAL : Addr} {a_SUBTRACT : Addr} {a_ADD : Addr} {a_NOT_EQUAL : Addr} {a_GREATER : Addr} {a_OR : Addr} {a_GREATER_EQUAL : Addr} {a_CALL : Addr} {a_EQUAL : Addr} (i : Int32) (w : own_W Z a_INTEGER a_NOT a_NEGATE a_FALSE a_TRUE a_STRING a_AND a_LESS a_NAME a_LESS_EQUAL a_SUBTRACT a_ADD a_NOT_EQUAL a_GREATER a_OR a_GREATER_EQUAL a_CALL a_EQUAL) (h0 : 0 ≤ i.toInt) (h1 : i.toInt < 18) : Fld Z Z.heap (own_pick i a_INTEGER a_STRING a_TRUE a_FALSE a_NAME a_CALL a_OR a_AND a_NOT a_EQUAL a_NOT_EQUAL a_LESS a_LESS_EQUAL a_GREATER a_GREATER_EQUAL a_ADD a_SUBTRACT a_NEGATE) "java/lang/Enum" "ordinal" "I" (.int i) := by
  obtain ⟨S_INTEGER, X_INTEGER, S_NOT, X_NOT, S_NEGATE, X_NEGATE, S_FALSE, X_FALSE, S_TRUE, X_TRUE, S_STRING, X_STRING, S_AND, X_AND, S_LESS, X_LESS, S_NAME, X_NAME, S_LESS_EQUAL, X_LESS_EQUAL, S_SUBTRACT, X_SUBTRACT, S_ADD, X_ADD, S_NOT_EQUAL, X_NOT_EQUAL, S_GREATER, X_GREATER, S_OR, X_OR, S_GREATER_EQUAL, X_GREATER_EQUAL, S_CALL, X_CALL, S_EQUAL, X_EQUAL, F_INTEGER_ordinal, F_NOT_ordinal, F_NEGATE_ordinal, F_FALSE_ordinal, F_TRUE_ordinal, F_STRING_ordinal, F_AND_ordinal, F_LESS_ordinal, F_NAME_ordinal, F_LESS_EQUAL_ordinal, F_SUBTRACT_ordinal, F_ADD_ordinal, F_NOT_EQUAL_ordinal, F_GREATER_ordinal, F_OR_ordinal, F_GREATER_EQUAL_ordinal, F_CALL_ordinal, F_EQUAL_ordinal⟩ := w
  rcases (by omega : i.toInt = 0 ∨ i.toInt = 1 ∨ i.toInt = 2 ∨ i.toInt = 3 ∨ i.toInt = 4 ∨ i.toInt = 5 ∨ i.toInt = 6 ∨ i.toInt = 7 ∨ i.toInt = 8 ∨ i.toInt = 9 ∨ i.toInt = 10 ∨ i.toInt = 11 ∨ i.toInt = 12 ∨ i.toInt = 13 ∨ i.toInt = 14 ∨ i.toInt = 15 ∨ i.toInt = 16 ∨ i.toInt = 17) with q | q | q | q | q | q | q | q | q | q | q | q | q | q | q | q | q | q
  · obtain rfl := own_case 0 q (by decide)
    exact F_INTEGER_ordinal
  · obtain rfl := own_case 1 q (by decide)
    exact F_STRING_ordinal
  · obtain rfl := own_case 2 q (by decide)
    exact F_TRUE_ordinal
  · obtain rfl := own_case 3 q (by decide)
    exact F_FALSE_ordinal
  · obtain rfl := own_case 4 q (by decide)
    exact F_NAME_ordinal
  · obtain rfl := own_case 5 q (by decide)
    exact F_CALL_ordinal
  · obtain rfl := own_case 6 q (by decide)
    exact F_OR_ordinal
  · obtain rfl := own_case 7 q (by decide)
    exact F_AND_ordinal
  · obtain rfl := own_case 8 q (by decide)
    exact F_NOT_ordinal
  · obtain rfl := own_case 9 q (by decide)
    exact F_EQUAL_ordinal
  · obtain rfl := own_case 10 q (by decide)
    exact F_NOT_EQUAL_ordinal
  · obtain rfl := own_case 11 q (by decide)
    exact F_LESS_ordinal
  · obtain rfl := own_case 12 q (by decide)
    exact F_LESS_EQUAL_ordinal
  · obtain rfl := own_case 13 q (by decide)
    exact F_GREATER_ordinal
  · obtain rfl := own_case 14 q (by decide)
    exact F_GREATER_EQUAL_ordinal
  · obtain rfl := own_case 15 q (by decide)
    exact F_ADD_ordinal
  · obtain rfl := own_case 16 q (by decide)
    exact F_SUBTRACT_ordinal
  · obtain rfl := own_case 17 q (by decide)
    exact F_NEGATE_ordinal
theorem own_pn0 : plainName "com/example/conformal/conformal/OperatorIsPrefixPinLaw" = true := by first | (simp [plainName, overriddenIn]; done) | decide +kernel
theorem own_ef_pick (m : MethodId) (i : Int32) : entryFrame m #[(.int i)] 1 = mkF m 0 #[.val (.int i)] [] := by first | (simp [entryFrame, mkF, argsToLocals, Value.category]; done) | rfl
theorem own_d_method_2_0 : decode method_2_code 0 = .ok (.iload_n 0, 1) := by decide +kernel
theorem own_d_method_2_1 : decode method_2_code 1 = .ok (.ifCond .ne 7, 3) := by decide +kernel
theorem own_d_method_2_4 : decode method_2_code 4 = .ok (.getstatic 7, 3) := by decide +kernel
theorem own_d_method_2_7 : decode method_2_code 7 = .ok (.areturn, 1) := by decide +kernel
theorem own_d_method_2_8 : decode method_2_code 8 = .ok (.iload_n 0, 1) := by decide +kernel
theorem own_d_method_2_9 : decode method_2_code 9 = .ok (.iconst 1, 1) := by decide +kernel
theorem own_d_method_2_10 : decode method_2_code 10 = .ok (.if_icmp .ne 7, 3) := by decide +kernel
theorem own_d_method_2_13 : decode method_2_code 13 = .ok (.getstatic 13, 3) := by decide +kernel
theorem own_d_method_2_16 : decode method_2_code 16 = .ok (.areturn, 1) := by decide +kernel
theorem own_d_method_2_17 : decode method_2_code 17 = .ok (.iload_n 0, 1) := by decide +kernel
theorem own_d_method_2_18 : decode method_2_code 18 = .ok (.iconst 2, 1) := by decide +kernel
theorem own_d_method_2_19 : decode method_2_code 19 = .ok (.if_icmp .ne 7, 3) := by decide +kernel
theorem own_d_method_2_22 : decode method_2_code 22 = .ok (.getstatic 16, 3) := by decide +kernel
theorem own_d_method_2_25 : decode method_2_code 25 = .ok (.areturn, 1) := by decide +kernel
theorem own_d_method_2_26 : decode method_2_code 26 = .ok (.iload_n 0, 1) := by decide +kernel
theorem own_d_method_2_27 : decode method_2_code 27 = .ok (.iconst 3, 1) := by decide +kernel
theorem own_d_method_2_28 : decode method_2_code 28 = .ok (.if_icmp .ne 7, 3) := by decide +kernel
theorem own_d_method_2_31 : decode method_2_code 31 = .ok (.getstatic 19, 3) := by decide +kernel
theorem own_d_method_2_34 : decode method_2_code 34 = .ok (.areturn, 1) := by decide +kernel
theorem own_d_method_2_35 : decode method_2_code 35 = .ok (.iload_n 0, 1) := by decide +kernel
theorem own_d_method_2_36 : decode method_2_code 36 = .ok (.iconst 4, 1) := by decide +kernel
theorem own_d_method_2_37 : decode method_2_code 37 = .ok (.if_icmp .ne 7, 3) := by decide +kernel
theorem own_d_method_2_40 : decode method_2_code 40 = .ok (.getstatic 22, 3) := by decide +kernel
theorem own_d_method_2_43 : decode method_2_code 43 = .ok (.areturn, 1) := by decide +kernel
theorem own_d_method_2_44 : decode method_2_code 44 = .ok (.iload_n 0, 1) := by decide +kernel
theorem own_d_method_2_45 : decode method_2_code 45 = .ok (.iconst 5, 1) := by decide +kernel
theorem own_d_method_2_46 : decode method_2_code 46 = .ok (.if_icmp .ne 7, 3) := by decide +kernel
theorem own_d_method_2_49 : decode method_2_code 49 = .ok (.getstatic 25, 3) := by decide +kernel
theorem own_d_method_2_52 : decode method_2_code 52 = .ok (.areturn, 1) := by decide +kernel
theorem own_d_method_2_53 : decode method_2_code 53 = .ok (.iload_n 0, 1) := by decide +kernel
theorem own_d_method_2_54 : decode method_2_code 54 = .ok (.bipush 6, 2) := by decide +kernel
theorem own_d_method_2_56 : decode method_2_code 56 = .ok (.if_icmp .ne 7, 3) := by decide +kernel
theorem own_d_method_2_59 : decode method_2_code 59 = .ok (.getstatic 28, 3) := by decide +kernel
theorem own_d_method_2_62 : decode method_2_code 62 = .ok (.areturn, 1) := by decide +kernel
theorem own_d_method_2_63 : decode method_2_code 63 = .ok (.iload_n 0, 1) := by decide +kernel
theorem own_d_method_2_64 : decode method_2_code 64 = .ok (.bipush 7, 2) := by decide +kernel
theorem own_d_method_2_66 : decode method_2_code 66 = .ok (.if_icmp .ne 7, 3) := by decide +kernel
theorem own_d_method_2_69 : decode method_2_code 69 = .ok (.getstatic 31, 3) := by decide +kernel
theorem own_d_method_2_72 : decode method_2_code 72 = .ok (.areturn, 1) := by decide +kernel
theorem own_d_method_2_73 : decode method_2_code 73 = .ok (.iload_n 0, 1) := by decide +kernel
theorem own_d_method_2_74 : decode method_2_code 74 = .ok (.bipush 8, 2) := by decide +kernel
theorem own_d_method_2_76 : decode method_2_code 76 = .ok (.if_icmp .ne 7, 3) := by decide +kernel
theorem own_d_method_2_79 : decode method_2_code 79 = .ok (.getstatic 34, 3) := by decide +kernel
theorem own_d_method_2_82 : decode method_2_code 82 = .ok (.areturn, 1) := by decide +kernel
theorem own_d_method_2_83 : decode method_2_code 83 = .ok (.iload_n 0, 1) := by decide +kernel
theorem own_d_method_2_84 : decode method_2_code 84 = .ok (.bipush 9, 2) := by decide +kernel
theorem own_d_method_2_86 : decode method_2_code 86 = .ok (.if_icmp .ne 7, 3) := by decide +kernel
theorem own_d_method_2_89 : decode method_2_code 89 = .ok (.getstatic 37, 3) := by decide +kernel
theorem own_d_method_2_92 : decode method_2_code 92 = .ok (.areturn, 1) := by decide +kernel
theorem own_d_method_2_93 : decode method_2_code 93 = .ok (.iload_n 0, 1) := by decide +kernel
theorem own_d_method_2_94 : decode method_2_code 94 = .ok (.bipush 10, 2) := by decide +kernel
theorem own_d_method_2_96 : decode method_2_code 96 = .ok (.if_icmp .ne 7, 3) := by decide +kernel
theorem own_d_method_2_99 : decode method_2_code 99 = .ok (.getstatic 40, 3) := by decide +kernel
theorem own_d_method_2_102 : decode method_2_code 102 = .ok (.areturn, 1) := by decide +kernel
theorem own_d_method_2_103 : decode method_2_code 103 = .ok (.iload_n 0, 1) := by decide +kernel
theorem own_d_method_2_104 : decode method_2_code 104 = .ok (.bipush 11, 2) := by decide +kernel
theorem own_d_method_2_106 : decode method_2_code 106 = .ok (.if_icmp .ne 7, 3) := by decide +kernel
theorem own_d_method_2_109 : decode method_2_code 109 = .ok (.getstatic 43, 3) := by decide +kernel
theorem own_d_method_2_112 : decode method_2_code 112 = .ok (.areturn, 1) := by decide +kernel
theorem own_d_method_2_113 : decode method_2_code 113 = .ok (.iload_n 0, 1) := by decide +kernel
theorem own_d_method_2_114 : decode method_2_code 114 = .ok (.bipush 12, 2) := by decide +kernel
theorem own_d_method_2_116 : decode method_2_code 116 = .ok (.if_icmp .ne 7, 3) := by decide +kernel
theorem own_d_method_2_119 : decode method_2_code 119 = .ok (.getstatic 46, 3) := by decide +kernel
theorem own_d_method_2_122 : decode method_2_code 122 = .ok (.areturn, 1) := by decide +kernel
theorem own_d_method_2_123 : decode method_2_code 123 = .ok (.iload_n 0, 1) := by decide +kernel
theorem own_d_method_2_124 : decode method_2_code 124 = .ok (.bipush 13, 2) := by decide +kernel
theorem own_d_method_2_126 : decode method_2_code 126 = .ok (.if_icmp .ne 7, 3) := by decide +kernel
theorem own_d_method_2_129 : decode method_2_code 129 = .ok (.getstatic 49, 3) := by decide +kernel
theorem own_d_method_2_132 : decode method_2_code 132 = .ok (.areturn, 1) := by decide +kernel
theorem own_d_method_2_133 : decode method_2_code 133 = .ok (.iload_n 0, 1) := by decide +kernel
theorem own_d_method_2_134 : decode method_2_code 134 = .ok (.bipush 14, 2) := by decide +kernel
theorem own_d_method_2_136 : decode method_2_code 136 = .ok (.if_icmp .ne 7, 3) := by decide +kernel
theorem own_d_method_2_139 : decode method_2_code 139 = .ok (.getstatic 52, 3) := by decide +kernel
theorem own_d_method_2_142 : decode method_2_code 142 = .ok (.areturn, 1) := by decide +kernel
theorem own_d_method_2_143 : decode method_2_code 143 = .ok (.iload_n 0, 1) := by decide +kernel
theorem own_d_method_2_144 : decode method_2_code 144 = .ok (.bipush 15, 2) := by decide +kernel
theorem own_d_method_2_146 : decode method_2_code 146 = .ok (.if_icmp .ne 7, 3) := by decide +kernel
theorem own_d_method_2_149 : decode method_2_code 149 = .ok (.getstatic 55, 3) := by decide +kernel
theorem own_d_method_2_152 : decode method_2_code 152 = .ok (.areturn, 1) := by decide +kernel
theorem own_d_method_2_153 : decode method_2_code 153 = .ok (.iload_n 0, 1) := by decide +kernel
theorem own_d_method_2_154 : decode method_2_code 154 = .ok (.bipush 16, 2) := by decide +kernel
theorem own_d_method_2_156 : decode method_2_code 156 = .ok (.if_icmp .ne 7, 3) := by decide +kernel
theorem own_d_method_2_159 : decode method_2_code 159 = .ok (.getstatic 58, 3) := by decide +kernel
theorem own_d_method_2_162 : decode method_2_code 162 = .ok (.areturn, 1) := by decide +kernel
theorem own_d_method_2_163 : decode method_2_code 163 = .ok (.getstatic 61, 3) := by decide +kernel
theorem own_d_method_2_166 : decode method_2_code 166 = .ok (.areturn, 1) := by decide +kernel
def Q_pick (Z : State) (i : Int32) (a_INTEGER : Addr) (a_NOT : Addr) (a_NEGATE : Addr) (a_FALSE : Addr) (a_TRUE : Addr) (a_STRING : Addr) (a_AND : Addr) (a_LESS : Addr) (a_NAME : Addr) (a_LESS_EQUAL : Addr) (a_SUBTRACT : Addr) (a_ADD : Addr) (a_NOT_EQUAL : Addr) (a_GREATER : Addr) (a_OR : Addr) (a_GREATER_EQUAL : Addr) (a_CALL : Addr) (a_EQUAL : Addr) (h0 : Heap) (v_ : Option Value) (h : Heap) (L_ : List Loc) : Prop := v_ = some (.ref (own_pick i a_INTEGER a_STRING a_TRUE a_FALSE a_NAME a_CALL a_OR a_AND a_NOT a_EQUAL a_NOT_EQUAL a_LESS a_LESS_EQUAL a_GREATER a_GREATER_EQUAL a_ADD a_SUBTRACT a_NEGATE)) ∧ Fr Z.heap.size L_ ∧ (h = h0)
set_option maxRecDepth 65536 in
set_option maxHeartbeats 40000000 in
theorem rm_pick (l : Launch) (Z : State) (a0 : Array Value) (hw : ∀ d ∈ tables_1, d.before a0 Z = true) (ws : List Jvm.Cond) (i : Int32) (a_INTEGER : Addr) (a_NOT : Addr) (a_NEGATE : Addr) (a_FALSE : Addr) (a_TRUE : Addr) (a_STRING : Addr) (a_AND : Addr) (a_LESS : Addr) (a_NAME : Addr) (a_LESS_EQUAL : Addr) (a_SUBTRACT : Addr) (a_ADD : Addr) (a_NOT_EQUAL : Addr) (a_GREATER : Addr) (a_OR : Addr) (a_GREATER_EQUAL : Addr) (a_CALL : Addr) (a_EQUAL : Addr) (h0 : Heap) (O : Ext Z.heap h0) (w : own_W Z a_INTEGER a_NOT a_NEGATE a_FALSE a_TRUE a_STRING a_AND a_LESS a_NAME a_LESS_EQUAL a_SUBTRACT a_ADD a_NOT_EQUAL a_GREATER a_OR a_GREATER_EQUAL a_CALL a_EQUAL) :
    MetFree l (⟨"com/example/conformal/conformal/OperatorIsPrefixPinLaw", "pick", "(I)Lcom/example/conformal/conformal/Expression$Operator;"⟩ : MethodName) (head1 (Jvm.Cond.code (⟨"com/example/conformal/conformal/OperatorIsPrefixPinLaw", "pick", "(I)Lcom/example/conformal/conformal/Expression$Operator;"⟩ : MethodName) method_2_code 1 (some (.object "com/example/conformal/conformal/Expression$Operator")) :: ws) ({ frames := 0, cells := 0, slots := 0, locals := 0 } : Room)) (fun a_ U_ => a_ = #[(.int i)] ∧ Z.Warmed39 U_.vm ∧ U_.heap = h0) (fun _ _ _ _ _ => True) (fun _ U_ o_ U2_ => ∃ v_ L_, o_ = .returned v_ ∧ Q_pick Z i a_INTEGER a_NOT a_NEGATE a_FALSE a_TRUE a_STRING a_AND a_LESS a_NAME a_LESS_EQUAL a_SUBTRACT a_ADD a_NOT_EQUAL a_GREATER a_OR a_GREATER_EQUAL a_CALL a_EQUAL h0 v_ U2_.heap L_ ∧ FrameEnd U_ o_ U2_ L_ ({ frames := 0, cells := 0, slots := 0, locals := 0 } : Room).cells ({ frames := 0, cells := 0, slots := 0, locals := 0 } : Room).slots) := by
  refine MetFree.of_bodySF (plainFor_of_name own_pn0) hisR ?_
  intro p e s m args below meth c s₁ Bd hml0 hP hK
  obtain ⟨rfl, hZ, hh⟩ := hP
  have hx := Bd.exec
  have hby := Bd.bytes
  have hml : c.maxLocals = 1 := hml0
  have hown : s.vm.findClass "com/example/conformal/conformal/OperatorIsPrefixPinLaw" = some m.cls := findClass_of_methodNamed Bd.named
  have hnm := (name_of_methodNamed Bd.named Bd.method).1
  have X0 : Stand p l e ({ frames := 0, cells := 0, slots := 0, locals := 0 } : Room) s m #[(.int i)] below meth c s₁ [] 0 0 := Stand.of_body Bd
  have e0 : s₁.heap = h0 := by rw [← hh, Bd.state]; rfl
  have N0 := Fr.nil Z.heap.size
  show own_G p e below (fun o_ s₂ => ∃ v_ L_, o_ = .returned v_ ∧ Q_pick Z i a_INTEGER a_NOT a_NEGATE a_FALSE a_TRUE a_STRING a_AND a_LESS a_NAME a_LESS_EQUAL a_SUBTRACT a_ADD a_NOT_EQUAL a_GREATER a_OR a_GREATER_EQUAL a_CALL a_EQUAL h0 v_ s₂.heap L_ ∧ FrameEnd s o_ s₂ L_ ({ frames := 0, cells := 0, slots := 0, locals := 0 } : Room).cells ({ frames := 0, cells := 0, slots := 0, locals := 0 } : Room).slots) (s₁.setTop (entryFrame m #[(.int i)] 1))
  refine own_go (s₁.setTop (mkF m 0 #[.val (.int i)] [])) (fun t_ k_ => castTop (own_ef_pick m i) k_) ?_
  have w' := w
  obtain ⟨S_INTEGER, X_INTEGER, S_NOT, X_NOT, S_NEGATE, X_NEGATE, S_FALSE, X_FALSE, S_TRUE, X_TRUE, S_STRING, X_STRING, S_AND, X_AND, S_LESS, X_LESS, S_NAME, X_NAME, S_LESS_EQUAL, X_LESS_EQUAL, S_SUBTRACT, X_SUBTRACT, S_ADD, X_ADD, S_NOT_EQUAL, X_NOT_EQUAL, S_GREATER, X_GREATER, S_OR, X_OR, S_GREATER_EQUAL, X_GREATER_EQUAL, S_CALL, X_CALL, S_EQUAL, X_EQUAL, F_INTEGER_ordinal, F_NOT_ordinal, F_NEGATE_ordinal, F_FALSE_ordinal, F_TRUE_ordinal, F_STRING_ordinal, F_AND_ordinal, F_LESS_ordinal, F_NAME_ordinal, F_LESS_EQUAL_ordinal, F_SUBTRACT_ordinal, F_ADD_ordinal, F_NOT_EQUAL_ordinal, F_GREATER_ordinal, F_OR_ordinal, F_GREATER_EQUAL_ordinal, F_CALL_ordinal, F_EQUAL_ordinal⟩ := w'
  refine own_go (s₁.setTop (mkF m 1 #[.val (.int i)] [(.int i)])) (fun t_ k_ => XS.iloadN X0.here hx rfl (hb hby own_d_method_2_0) rfl k_) ?_
  by_cases hc1_1 : i = (0 : Int32)
  ·
    refine own_go (s₁.setTop (mkF m 4 #[.val (.int i)] [])) (fun t_ k_ => XS.ifNo X0.here hx rfl (hb hby own_d_method_2_1) rfl ((if0 _ _).trans (teq hc1_1).2) k_) ?_
    obtain ⟨T2, X2, e2, st2⟩ := getS2 X0 hx hZ hown (host := "") (Or.inl (hw _ (List.mem_of_getElem? (i := 5) rfl))) Via.refl e0 (S_INTEGER.ext O) (g := (mkF m 4 #[.val (.int i)] [])) rfl (hb hby own_d_method_2_4)
    refine own_go (T2.setTop (mkF m 7 #[.val (.int i)] [(.ref a_INTEGER)])) (fun t_ k_ => st2 _ k_) ?_
    obtain ⟨fs, hr, hrun, hended, hW, hsame⟩ := X2.leave (v := some (.ref a_INTEGER)) (fun h => by rw [Bd.returns] at h; cases h)
    refine ⟨_, _, Jvm.RoadKit.retOut X2 hx Bd.returns rfl (Or.inr (Or.inr (Or.inr (Or.inr ⟨rfl, rfl, rfl⟩)))) (hb hby own_d_method_2_7) hr, hrun, hended, _, _, rfl, ?_, ⟨_, rfl⟩, hW, hsame.mono (by decide) (by decide)⟩
    show Q_pick Z i a_INTEGER a_NOT a_NEGATE a_FALSE a_TRUE a_STRING a_AND a_LESS a_NAME a_LESS_EQUAL a_SUBTRACT a_ADD a_NOT_EQUAL a_GREATER a_OR a_GREATER_EQUAL a_CALL a_EQUAL h0 _ T2.heap _
    exact ⟨by simp [own_pick, hc1_1], N0, e2⟩
  ·
    refine own_go (s₁.setTop (mkF m 8 #[.val (.int i)] [])) (fun t_ k_ => XS.ifYes X0.here hx rfl (pc0 := 1) (pc' := 8) rfl (hb hby own_d_method_2_1) rfl ((if0 _ _).trans (feq hc1_1).2) (by decide) (by decide) k_) ?_
    refine own_go (s₁.setTop (mkF m 9 #[.val (.int i)] [(.int i)])) (fun t_ k_ => XS.iloadN X0.here hx rfl (hb hby own_d_method_2_8) rfl k_) ?_
    refine own_go (s₁.setTop (mkF m 10 #[.val (.int i)] [(.int (1 : Int32)), (.int i)])) (fun t_ k_ => XS.iconst X0.here hx rfl (hb hby own_d_method_2_9) k_) ?_
    by_cases hc10_3 : i = (1 : Int32)
    ·
      refine own_go (s₁.setTop (mkF m 13 #[.val (.int i)] [])) (fun t_ k_ => XS.icmpNo X0.here hx rfl (hb hby own_d_method_2_10) rfl (teq hc10_3).2 k_) ?_
      obtain ⟨T4, X4, e4, st4⟩ := getS2 X0 hx hZ hown (host := "") (Or.inl (hw _ (List.mem_of_getElem? (i := 21) rfl))) Via.refl e0 (S_STRING.ext O) (g := (mkF m 13 #[.val (.int i)] [])) rfl (hb hby own_d_method_2_13)
      refine own_go (T4.setTop (mkF m 16 #[.val (.int i)] [(.ref a_STRING)])) (fun t_ k_ => st4 _ k_) ?_
      obtain ⟨fs, hr, hrun, hended, hW, hsame⟩ := X4.leave (v := some (.ref a_STRING)) (fun h => by rw [Bd.returns] at h; cases h)
      refine ⟨_, _, Jvm.RoadKit.retOut X4 hx Bd.returns rfl (Or.inr (Or.inr (Or.inr (Or.inr ⟨rfl, rfl, rfl⟩)))) (hb hby own_d_method_2_16) hr, hrun, hended, _, _, rfl, ?_, ⟨_, rfl⟩, hW, hsame.mono (by decide) (by decide)⟩
      show Q_pick Z i a_INTEGER a_NOT a_NEGATE a_FALSE a_TRUE a_STRING a_AND a_LESS a_NAME a_LESS_EQUAL a_SUBTRACT a_ADD a_NOT_EQUAL a_GREATER a_OR a_GREATER_EQUAL a_CALL a_EQUAL h0 _ T4.heap _
      exact ⟨by simp [own_pick, hc1_1, hc10_3], N0, e4⟩
    ·
      refine own_go (s₁.setTop (mkF m 17 #[.val (.int i)] [])) (fun t_ k_ => XS.icmpYes X0.here hx rfl (pc0 := 10) (pc' := 17) rfl (hb hby own_d_method_2_10) rfl (feq hc10_3).2 (by decide) (by decide) k_) ?_
      refine own_go (s₁.setTop (mkF m 18 #[.val (.int i)] [(.int i)])) (fun t_ k_ => XS.iloadN X0.here hx rfl (hb hby own_d_method_2_17) rfl k_) ?_
      refine own_go (s₁.setTop (mkF m 19 #[.val (.int i)] [(.int (2 : Int32)), (.int i)])) (fun t_ k_ => XS.iconst X0.here hx rfl (hb hby own_d_method_2_18) k_) ?_
      by_cases hc19_5 : i = (2 : Int32)
      ·
        refine own_go (s₁.setTop (mkF m 22 #[.val (.int i)] [])) (fun t_ k_ => XS.icmpNo X0.here hx rfl (hb hby own_d_method_2_19) rfl (teq hc19_5).2 k_) ?_
        obtain ⟨T6, X6, e6, st6⟩ := getS2 X0 hx hZ hown (host := "") (Or.inl (hw _ (List.mem_of_getElem? (i := 19) rfl))) Via.refl e0 (S_TRUE.ext O) (g := (mkF m 22 #[.val (.int i)] [])) rfl (hb hby own_d_method_2_22)
        refine own_go (T6.setTop (mkF m 25 #[.val (.int i)] [(.ref a_TRUE)])) (fun t_ k_ => st6 _ k_) ?_
        obtain ⟨fs, hr, hrun, hended, hW, hsame⟩ := X6.leave (v := some (.ref a_TRUE)) (fun h => by rw [Bd.returns] at h; cases h)
        refine ⟨_, _, Jvm.RoadKit.retOut X6 hx Bd.returns rfl (Or.inr (Or.inr (Or.inr (Or.inr ⟨rfl, rfl, rfl⟩)))) (hb hby own_d_method_2_25) hr, hrun, hended, _, _, rfl, ?_, ⟨_, rfl⟩, hW, hsame.mono (by decide) (by decide)⟩
        show Q_pick Z i a_INTEGER a_NOT a_NEGATE a_FALSE a_TRUE a_STRING a_AND a_LESS a_NAME a_LESS_EQUAL a_SUBTRACT a_ADD a_NOT_EQUAL a_GREATER a_OR a_GREATER_EQUAL a_CALL a_EQUAL h0 _ T6.heap _
        exact ⟨by simp [own_pick, hc1_1, hc10_3, hc19_5], N0, e6⟩
      ·
        refine own_go (s₁.setTop (mkF m 26 #[.val (.int i)] [])) (fun t_ k_ => XS.icmpYes X0.here hx rfl (pc0 := 19) (pc' := 26) rfl (hb hby own_d_method_2_19) rfl (feq hc19_5).2 (by decide) (by decide) k_) ?_
        refine own_go (s₁.setTop (mkF m 27 #[.val (.int i)] [(.int i)])) (fun t_ k_ => XS.iloadN X0.here hx rfl (hb hby own_d_method_2_26) rfl k_) ?_
        refine own_go (s₁.setTop (mkF m 28 #[.val (.int i)] [(.int (3 : Int32)), (.int i)])) (fun t_ k_ => XS.iconst X0.here hx rfl (hb hby own_d_method_2_27) k_) ?_
        by_cases hc28_7 : i = (3 : Int32)
        ·
          refine own_go (s₁.setTop (mkF m 31 #[.val (.int i)] [])) (fun t_ k_ => XS.icmpNo X0.here hx rfl (hb hby own_d_method_2_28) rfl (teq hc28_7).2 k_) ?_
          obtain ⟨T8, X8, e8, st8⟩ := getS2 X0 hx hZ hown (host := "") (Or.inl (hw _ (List.mem_of_getElem? (i := 17) rfl))) Via.refl e0 (S_FALSE.ext O) (g := (mkF m 31 #[.val (.int i)] [])) rfl (hb hby own_d_method_2_31)
          refine own_go (T8.setTop (mkF m 34 #[.val (.int i)] [(.ref a_FALSE)])) (fun t_ k_ => st8 _ k_) ?_
          obtain ⟨fs, hr, hrun, hended, hW, hsame⟩ := X8.leave (v := some (.ref a_FALSE)) (fun h => by rw [Bd.returns] at h; cases h)
          refine ⟨_, _, Jvm.RoadKit.retOut X8 hx Bd.returns rfl (Or.inr (Or.inr (Or.inr (Or.inr ⟨rfl, rfl, rfl⟩)))) (hb hby own_d_method_2_34) hr, hrun, hended, _, _, rfl, ?_, ⟨_, rfl⟩, hW, hsame.mono (by decide) (by decide)⟩
          show Q_pick Z i a_INTEGER a_NOT a_NEGATE a_FALSE a_TRUE a_STRING a_AND a_LESS a_NAME a_LESS_EQUAL a_SUBTRACT a_ADD a_NOT_EQUAL a_GREATER a_OR a_GREATER_EQUAL a_CALL a_EQUAL h0 _ T8.heap _
          exact ⟨by simp [own_pick, hc1_1, hc10_3, hc19_5, hc28_7], N0, e8⟩
        ·
          refine own_go (s₁.setTop (mkF m 35 #[.val (.int i)] [])) (fun t_ k_ => XS.icmpYes X0.here hx rfl (pc0 := 28) (pc' := 35) rfl (hb hby own_d_method_2_28) rfl (feq hc28_7).2 (by decide) (by decide) k_) ?_
          refine own_go (s₁.setTop (mkF m 36 #[.val (.int i)] [(.int i)])) (fun t_ k_ => XS.iloadN X0.here hx rfl (hb hby own_d_method_2_35) rfl k_) ?_
          refine own_go (s₁.setTop (mkF m 37 #[.val (.int i)] [(.int (4 : Int32)), (.int i)])) (fun t_ k_ => XS.iconst X0.here hx rfl (hb hby own_d_method_2_36) k_) ?_
          by_cases hc37_9 : i = (4 : Int32)
          ·
            refine own_go (s₁.setTop (mkF m 40 #[.val (.int i)] [])) (fun t_ k_ => XS.icmpNo X0.here hx rfl (hb hby own_d_method_2_37) rfl (teq hc37_9).2 k_) ?_
            obtain ⟨T10, X10, e10, st10⟩ := getS2 X0 hx hZ hown (host := "") (Or.inl (hw _ (List.mem_of_getElem? (i := 27) rfl))) Via.refl e0 (S_NAME.ext O) (g := (mkF m 40 #[.val (.int i)] [])) rfl (hb hby own_d_method_2_40)
            refine own_go (T10.setTop (mkF m 43 #[.val (.int i)] [(.ref a_NAME)])) (fun t_ k_ => st10 _ k_) ?_
            obtain ⟨fs, hr, hrun, hended, hW, hsame⟩ := X10.leave (v := some (.ref a_NAME)) (fun h => by rw [Bd.returns] at h; cases h)
            refine ⟨_, _, Jvm.RoadKit.retOut X10 hx Bd.returns rfl (Or.inr (Or.inr (Or.inr (Or.inr ⟨rfl, rfl, rfl⟩)))) (hb hby own_d_method_2_43) hr, hrun, hended, _, _, rfl, ?_, ⟨_, rfl⟩, hW, hsame.mono (by decide) (by decide)⟩
            show Q_pick Z i a_INTEGER a_NOT a_NEGATE a_FALSE a_TRUE a_STRING a_AND a_LESS a_NAME a_LESS_EQUAL a_SUBTRACT a_ADD a_NOT_EQUAL a_GREATER a_OR a_GREATER_EQUAL a_CALL a_EQUAL h0 _ T10.heap _
            exact ⟨by simp [own_pick, hc1_1, hc10_3, hc19_5, hc28_7, hc37_9], N0, e10⟩
          ·
            refine own_go (s₁.setTop (mkF m 44 #[.val (.int i)] [])) (fun t_ k_ => XS.icmpYes X0.here hx rfl (pc0 := 37) (pc' := 44) rfl (hb hby own_d_method_2_37) rfl (feq hc37_9).2 (by decide) (by decide) k_) ?_
            refine own_go (s₁.setTop (mkF m 45 #[.val (.int i)] [(.int i)])) (fun t_ k_ => XS.iloadN X0.here hx rfl (hb hby own_d_method_2_44) rfl k_) ?_
            refine own_go (s₁.setTop (mkF m 46 #[.val (.int i)] [(.int (5 : Int32)), (.int i)])) (fun t_ k_ => XS.iconst X0.here hx rfl (hb hby own_d_method_2_45) k_) ?_
            by_cases hc46_11 : i = (5 : Int32)
            ·
              refine own_go (s₁.setTop (mkF m 49 #[.val (.int i)] [])) (fun t_ k_ => XS.icmpNo X0.here hx rfl (hb hby own_d_method_2_46) rfl (teq hc46_11).2 k_) ?_
              obtain ⟨T12, X12, e12, st12⟩ := getS2 X0 hx hZ hown (host := "") (Or.inl (hw _ (List.mem_of_getElem? (i := 45) rfl))) Via.refl e0 (S_CALL.ext O) (g := (mkF m 49 #[.val (.int i)] [])) rfl (hb hby own_d_method_2_49)
              refine own_go (T12.setTop (mkF m 52 #[.val (.int i)] [(.ref a_CALL)])) (fun t_ k_ => st12 _ k_) ?_
              obtain ⟨fs, hr, hrun, hended, hW, hsame⟩ := X12.leave (v := some (.ref a_CALL)) (fun h => by rw [Bd.returns] at h; cases h)
              refine ⟨_, _, Jvm.RoadKit.retOut X12 hx Bd.returns rfl (Or.inr (Or.inr (Or.inr (Or.inr ⟨rfl, rfl, rfl⟩)))) (hb hby own_d_method_2_52) hr, hrun, hended, _, _, rfl, ?_, ⟨_, rfl⟩, hW, hsame.mono (by decide) (by decide)⟩
              show Q_pick Z i a_INTEGER a_NOT a_NEGATE a_FALSE a_TRUE a_STRING a_AND a_LESS a_NAME a_LESS_EQUAL a_SUBTRACT a_ADD a_NOT_EQUAL a_GREATER a_OR a_GREATER_EQUAL a_CALL a_EQUAL h0 _ T12.heap _
              exact ⟨by simp [own_pick, hc1_1, hc10_3, hc19_5, hc28_7, hc37_9, hc46_11], N0, e12⟩
            ·
              refine own_go (s₁.setTop (mkF m 53 #[.val (.int i)] [])) (fun t_ k_ => XS.icmpYes X0.here hx rfl (pc0 := 46) (pc' := 53) rfl (hb hby own_d_method_2_46) rfl (feq hc46_11).2 (by decide) (by decide) k_) ?_
              refine own_go (s₁.setTop (mkF m 54 #[.val (.int i)] [(.int i)])) (fun t_ k_ => XS.iloadN X0.here hx rfl (hb hby own_d_method_2_53) rfl k_) ?_
              refine own_go (s₁.setTop (mkF m 56 #[.val (.int i)] [(.int (6 : Int32)), (.int i)])) (fun t_ k_ => XS.bipush X0.here hx rfl (hb hby own_d_method_2_54) k_) ?_
              by_cases hc56_13 : i = (6 : Int32)
              ·
                refine own_go (s₁.setTop (mkF m 59 #[.val (.int i)] [])) (fun t_ k_ => XS.icmpNo X0.here hx rfl (hb hby own_d_method_2_56) rfl (teq hc56_13).2 k_) ?_
                obtain ⟨T14, X14, e14, st14⟩ := getS2 X0 hx hZ hown (host := "") (Or.inl (hw _ (List.mem_of_getElem? (i := 40) rfl))) Via.refl e0 (S_OR.ext O) (g := (mkF m 59 #[.val (.int i)] [])) rfl (hb hby own_d_method_2_59)
                refine own_go (T14.setTop (mkF m 62 #[.val (.int i)] [(.ref a_OR)])) (fun t_ k_ => st14 _ k_) ?_
                obtain ⟨fs, hr, hrun, hended, hW, hsame⟩ := X14.leave (v := some (.ref a_OR)) (fun h => by rw [Bd.returns] at h; cases h)
                refine ⟨_, _, Jvm.RoadKit.retOut X14 hx Bd.returns rfl (Or.inr (Or.inr (Or.inr (Or.inr ⟨rfl, rfl, rfl⟩)))) (hb hby own_d_method_2_62) hr, hrun, hended, _, _, rfl, ?_, ⟨_, rfl⟩, hW, hsame.mono (by decide) (by decide)⟩
                show Q_pick Z i a_INTEGER a_NOT a_NEGATE a_FALSE a_TRUE a_STRING a_AND a_LESS a_NAME a_LESS_EQUAL a_SUBTRACT a_ADD a_NOT_EQUAL a_GREATER a_OR a_GREATER_EQUAL a_CALL a_EQUAL h0 _ T14.heap _
                exact ⟨by simp [own_pick, hc1_1, hc10_3, hc19_5, hc28_7, hc37_9, hc46_11, hc56_13], N0, e14⟩
              ·
                refine own_go (s₁.setTop (mkF m 63 #[.val (.int i)] [])) (fun t_ k_ => XS.icmpYes X0.here hx rfl (pc0 := 56) (pc' := 63) rfl (hb hby own_d_method_2_56) rfl (feq hc56_13).2 (by decide) (by decide) k_) ?_
                refine own_go (s₁.setTop (mkF m 64 #[.val (.int i)] [(.int i)])) (fun t_ k_ => XS.iloadN X0.here hx rfl (hb hby own_d_method_2_63) rfl k_) ?_
                refine own_go (s₁.setTop (mkF m 66 #[.val (.int i)] [(.int (7 : Int32)), (.int i)])) (fun t_ k_ => XS.bipush X0.here hx rfl (hb hby own_d_method_2_64) k_) ?_
                by_cases hc66_15 : i = (7 : Int32)
                ·
                  refine own_go (s₁.setTop (mkF m 69 #[.val (.int i)] [])) (fun t_ k_ => XS.icmpNo X0.here hx rfl (hb hby own_d_method_2_66) rfl (teq hc66_15).2 k_) ?_
                  obtain ⟨T16, X16, e16, st16⟩ := getS2 X0 hx hZ hown (host := "") (Or.inl (hw _ (List.mem_of_getElem? (i := 23) rfl))) Via.refl e0 (S_AND.ext O) (g := (mkF m 69 #[.val (.int i)] [])) rfl (hb hby own_d_method_2_69)
                  refine own_go (T16.setTop (mkF m 72 #[.val (.int i)] [(.ref a_AND)])) (fun t_ k_ => st16 _ k_) ?_
                  obtain ⟨fs, hr, hrun, hended, hW, hsame⟩ := X16.leave (v := some (.ref a_AND)) (fun h => by rw [Bd.returns] at h; cases h)
                  refine ⟨_, _, Jvm.RoadKit.retOut X16 hx Bd.returns rfl (Or.inr (Or.inr (Or.inr (Or.inr ⟨rfl, rfl, rfl⟩)))) (hb hby own_d_method_2_72) hr, hrun, hended, _, _, rfl, ?_, ⟨_, rfl⟩, hW, hsame.mono (by decide) (by decide)⟩
                  show Q_pick Z i a_INTEGER a_NOT a_NEGATE a_FALSE a_TRUE a_STRING a_AND a_LESS a_NAME a_LESS_EQUAL a_SUBTRACT a_ADD a_NOT_EQUAL a_GREATER a_OR a_GREATER_EQUAL a_CALL a_EQUAL h0 _ T16.heap _
                  exact ⟨by simp [own_pick, hc1_1, hc10_3, hc19_5, hc28_7, hc37_9, hc46_11, hc56_13, hc66_15], N0, e16⟩
                ·
                  refine own_go (s₁.setTop (mkF m 73 #[.val (.int i)] [])) (fun t_ k_ => XS.icmpYes X0.here hx rfl (pc0 := 66) (pc' := 73) rfl (hb hby own_d_method_2_66) rfl (feq hc66_15).2 (by decide) (by decide) k_) ?_
                  refine own_go (s₁.setTop (mkF m 74 #[.val (.int i)] [(.int i)])) (fun t_ k_ => XS.iloadN X0.here hx rfl (hb hby own_d_method_2_73) rfl k_) ?_
                  refine own_go (s₁.setTop (mkF m 76 #[.val (.int i)] [(.int (8 : Int32)), (.int i)])) (fun t_ k_ => XS.bipush X0.here hx rfl (hb hby own_d_method_2_74) k_) ?_
                  by_cases hc76_17 : i = (8 : Int32)
                  ·
                    refine own_go (s₁.setTop (mkF m 79 #[.val (.int i)] [])) (fun t_ k_ => XS.icmpNo X0.here hx rfl (hb hby own_d_method_2_76) rfl (teq hc76_17).2 k_) ?_
                    obtain ⟨T18, X18, e18, st18⟩ := getS2 X0 hx hZ hown (host := "") (Or.inl (hw _ (List.mem_of_getElem? (i := 29) rfl))) Via.refl e0 (S_NOT.ext O) (g := (mkF m 79 #[.val (.int i)] [])) rfl (hb hby own_d_method_2_79)
                    refine own_go (T18.setTop (mkF m 82 #[.val (.int i)] [(.ref a_NOT)])) (fun t_ k_ => st18 _ k_) ?_
                    obtain ⟨fs, hr, hrun, hended, hW, hsame⟩ := X18.leave (v := some (.ref a_NOT)) (fun h => by rw [Bd.returns] at h; cases h)
                    refine ⟨_, _, Jvm.RoadKit.retOut X18 hx Bd.returns rfl (Or.inr (Or.inr (Or.inr (Or.inr ⟨rfl, rfl, rfl⟩)))) (hb hby own_d_method_2_82) hr, hrun, hended, _, _, rfl, ?_, ⟨_, rfl⟩, hW, hsame.mono (by decide) (by decide)⟩
                    show Q_pick Z i a_INTEGER a_NOT a_NEGATE a_FALSE a_TRUE a_STRING a_AND a_LESS a_NAME a_LESS_EQUAL a_SUBTRACT a_ADD a_NOT_EQUAL a_GREATER a_OR a_GREATER_EQUAL a_CALL a_EQUAL h0 _ T18.heap _
                    exact ⟨by simp [own_pick, hc1_1, hc10_3, hc19_5, hc28_7, hc37_9, hc46_11, hc56_13, hc66_15, hc76_17], N0, e18⟩
                  ·
                    refine own_go (s₁.setTop (mkF m 83 #[.val (.int i)] [])) (fun t_ k_ => XS.icmpYes X0.here hx rfl (pc0 := 76) (pc' := 83) rfl (hb hby own_d_method_2_76) rfl (feq hc76_17).2 (by decide) (by decide) k_) ?_
                    refine own_go (s₁.setTop (mkF m 84 #[.val (.int i)] [(.int i)])) (fun t_ k_ => XS.iloadN X0.here hx rfl (hb hby own_d_method_2_83) rfl k_) ?_
                    refine own_go (s₁.setTop (mkF m 86 #[.val (.int i)] [(.int (9 : Int32)), (.int i)])) (fun t_ k_ => XS.bipush X0.here hx rfl (hb hby own_d_method_2_84) k_) ?_
                    by_cases hc86_19 : i = (9 : Int32)
                    ·
                      refine own_go (s₁.setTop (mkF m 89 #[.val (.int i)] [])) (fun t_ k_ => XS.icmpNo X0.here hx rfl (hb hby own_d_method_2_86) rfl (teq hc86_19).2 k_) ?_
                      obtain ⟨T20, X20, e20, st20⟩ := getS2 X0 hx hZ hown (host := "") (Or.inl (hw _ (List.mem_of_getElem? (i := 47) rfl))) Via.refl e0 (S_EQUAL.ext O) (g := (mkF m 89 #[.val (.int i)] [])) rfl (hb hby own_d_method_2_89)
                      refine own_go (T20.setTop (mkF m 92 #[.val (.int i)] [(.ref a_EQUAL)])) (fun t_ k_ => st20 _ k_) ?_
                      obtain ⟨fs, hr, hrun, hended, hW, hsame⟩ := X20.leave (v := some (.ref a_EQUAL)) (fun h => by rw [Bd.returns] at h; cases h)
                      refine ⟨_, _, Jvm.RoadKit.retOut X20 hx Bd.returns rfl (Or.inr (Or.inr (Or.inr (Or.inr ⟨rfl, rfl, rfl⟩)))) (hb hby own_d_method_2_92) hr, hrun, hended, _, _, rfl, ?_, ⟨_, rfl⟩, hW, hsame.mono (by decide) (by decide)⟩
                      show Q_pick Z i a_INTEGER a_NOT a_NEGATE a_FALSE a_TRUE a_STRING a_AND a_LESS a_NAME a_LESS_EQUAL a_SUBTRACT a_ADD a_NOT_EQUAL a_GREATER a_OR a_GREATER_EQUAL a_CALL a_EQUAL h0 _ T20.heap _
                      exact ⟨by simp [own_pick, hc1_1, hc10_3, hc19_5, hc28_7, hc37_9, hc46_11, hc56_13, hc66_15, hc76_17, hc86_19], N0, e20⟩
                    ·
                      refine own_go (s₁.setTop (mkF m 93 #[.val (.int i)] [])) (fun t_ k_ => XS.icmpYes X0.here hx rfl (pc0 := 86) (pc' := 93) rfl (hb hby own_d_method_2_86) rfl (feq hc86_19).2 (by decide) (by decide) k_) ?_
                      refine own_go (s₁.setTop (mkF m 94 #[.val (.int i)] [(.int i)])) (fun t_ k_ => XS.iloadN X0.here hx rfl (hb hby own_d_method_2_93) rfl k_) ?_
                      refine own_go (s₁.setTop (mkF m 96 #[.val (.int i)] [(.int (10 : Int32)), (.int i)])) (fun t_ k_ => XS.bipush X0.here hx rfl (hb hby own_d_method_2_94) k_) ?_
                      by_cases hc96_21 : i = (10 : Int32)
                      ·
                        refine own_go (s₁.setTop (mkF m 99 #[.val (.int i)] [])) (fun t_ k_ => XS.icmpNo X0.here hx rfl (hb hby own_d_method_2_96) rfl (teq hc96_21).2 k_) ?_
                        obtain ⟨T22, X22, e22, st22⟩ := getS2 X0 hx hZ hown (host := "") (Or.inl (hw _ (List.mem_of_getElem? (i := 36) rfl))) Via.refl e0 (S_NOT_EQUAL.ext O) (g := (mkF m 99 #[.val (.int i)] [])) rfl (hb hby own_d_method_2_99)
                        refine own_go (T22.setTop (mkF m 102 #[.val (.int i)] [(.ref a_NOT_EQUAL)])) (fun t_ k_ => st22 _ k_) ?_
                        obtain ⟨fs, hr, hrun, hended, hW, hsame⟩ := X22.leave (v := some (.ref a_NOT_EQUAL)) (fun h => by rw [Bd.returns] at h; cases h)
                        refine ⟨_, _, Jvm.RoadKit.retOut X22 hx Bd.returns rfl (Or.inr (Or.inr (Or.inr (Or.inr ⟨rfl, rfl, rfl⟩)))) (hb hby own_d_method_2_102) hr, hrun, hended, _, _, rfl, ?_, ⟨_, rfl⟩, hW, hsame.mono (by decide) (by decide)⟩
                        show Q_pick Z i a_INTEGER a_NOT a_NEGATE a_FALSE a_TRUE a_STRING a_AND a_LESS a_NAME a_LESS_EQUAL a_SUBTRACT a_ADD a_NOT_EQUAL a_GREATER a_OR a_GREATER_EQUAL a_CALL a_EQUAL h0 _ T22.heap _
                        exact ⟨by simp [own_pick, hc1_1, hc10_3, hc19_5, hc28_7, hc37_9, hc46_11, hc56_13, hc66_15, hc76_17, hc86_19, hc96_21], N0, e22⟩
                      ·
                        refine own_go (s₁.setTop (mkF m 103 #[.val (.int i)] [])) (fun t_ k_ => XS.icmpYes X0.here hx rfl (pc0 := 96) (pc' := 103) rfl (hb hby own_d_method_2_96) rfl (feq hc96_21).2 (by decide) (by decide) k_) ?_
                        refine own_go (s₁.setTop (mkF m 104 #[.val (.int i)] [(.int i)])) (fun t_ k_ => XS.iloadN X0.here hx rfl (hb hby own_d_method_2_103) rfl k_) ?_
                        refine own_go (s₁.setTop (mkF m 106 #[.val (.int i)] [(.int (11 : Int32)), (.int i)])) (fun t_ k_ => XS.bipush X0.here hx rfl (hb hby own_d_method_2_104) k_) ?_
                        by_cases hc106_23 : i = (11 : Int32)
                        ·
                          refine own_go (s₁.setTop (mkF m 109 #[.val (.int i)] [])) (fun t_ k_ => XS.icmpNo X0.here hx rfl (hb hby own_d_method_2_106) rfl (teq hc106_23).2 k_) ?_
                          obtain ⟨T24, X24, e24, st24⟩ := getS2 X0 hx hZ hown (host := "") (Or.inl (hw _ (List.mem_of_getElem? (i := 25) rfl))) Via.refl e0 (S_LESS.ext O) (g := (mkF m 109 #[.val (.int i)] [])) rfl (hb hby own_d_method_2_109)
                          refine own_go (T24.setTop (mkF m 112 #[.val (.int i)] [(.ref a_LESS)])) (fun t_ k_ => st24 _ k_) ?_
                          obtain ⟨fs, hr, hrun, hended, hW, hsame⟩ := X24.leave (v := some (.ref a_LESS)) (fun h => by rw [Bd.returns] at h; cases h)
                          refine ⟨_, _, Jvm.RoadKit.retOut X24 hx Bd.returns rfl (Or.inr (Or.inr (Or.inr (Or.inr ⟨rfl, rfl, rfl⟩)))) (hb hby own_d_method_2_112) hr, hrun, hended, _, _, rfl, ?_, ⟨_, rfl⟩, hW, hsame.mono (by decide) (by decide)⟩
                          show Q_pick Z i a_INTEGER a_NOT a_NEGATE a_FALSE a_TRUE a_STRING a_AND a_LESS a_NAME a_LESS_EQUAL a_SUBTRACT a_ADD a_NOT_EQUAL a_GREATER a_OR a_GREATER_EQUAL a_CALL a_EQUAL h0 _ T24.heap _
                          exact ⟨by simp [own_pick, hc1_1, hc10_3, hc19_5, hc28_7, hc37_9, hc46_11, hc56_13, hc66_15, hc76_17, hc86_19, hc96_21, hc106_23], N0, e24⟩
                        ·
                          refine own_go (s₁.setTop (mkF m 113 #[.val (.int i)] [])) (fun t_ k_ => XS.icmpYes X0.here hx rfl (pc0 := 106) (pc' := 113) rfl (hb hby own_d_method_2_106) rfl (feq hc106_23).2 (by decide) (by decide) k_) ?_
                          refine own_go (s₁.setTop (mkF m 114 #[.val (.int i)] [(.int i)])) (fun t_ k_ => XS.iloadN X0.here hx rfl (hb hby own_d_method_2_113) rfl k_) ?_
                          refine own_go (s₁.setTop (mkF m 116 #[.val (.int i)] [(.int (12 : Int32)), (.int i)])) (fun t_ k_ => XS.bipush X0.here hx rfl (hb hby own_d_method_2_114) k_) ?_
                          by_cases hc116_25 : i = (12 : Int32)
                          ·
                            refine own_go (s₁.setTop (mkF m 119 #[.val (.int i)] [])) (fun t_ k_ => XS.icmpNo X0.here hx rfl (hb hby own_d_method_2_116) rfl (teq hc116_25).2 k_) ?_
                            obtain ⟨T26, X26, e26, st26⟩ := getS2 X0 hx hZ hown (host := "") (Or.inl (hw _ (List.mem_of_getElem? (i := 30) rfl))) Via.refl e0 (S_LESS_EQUAL.ext O) (g := (mkF m 119 #[.val (.int i)] [])) rfl (hb hby own_d_method_2_119)
                            refine own_go (T26.setTop (mkF m 122 #[.val (.int i)] [(.ref a_LESS_EQUAL)])) (fun t_ k_ => st26 _ k_) ?_
                            obtain ⟨fs, hr, hrun, hended, hW, hsame⟩ := X26.leave (v := some (.ref a_LESS_EQUAL)) (fun h => by rw [Bd.returns] at h; cases h)
                            refine ⟨_, _, Jvm.RoadKit.retOut X26 hx Bd.returns rfl (Or.inr (Or.inr (Or.inr (Or.inr ⟨rfl, rfl, rfl⟩)))) (hb hby own_d_method_2_122) hr, hrun, hended, _, _, rfl, ?_, ⟨_, rfl⟩, hW, hsame.mono (by decide) (by decide)⟩
                            show Q_pick Z i a_INTEGER a_NOT a_NEGATE a_FALSE a_TRUE a_STRING a_AND a_LESS a_NAME a_LESS_EQUAL a_SUBTRACT a_ADD a_NOT_EQUAL a_GREATER a_OR a_GREATER_EQUAL a_CALL a_EQUAL h0 _ T26.heap _
                            exact ⟨by simp [own_pick, hc1_1, hc10_3, hc19_5, hc28_7, hc37_9, hc46_11, hc56_13, hc66_15, hc76_17, hc86_19, hc96_21, hc106_23, hc116_25], N0, e26⟩
                          ·
                            refine own_go (s₁.setTop (mkF m 123 #[.val (.int i)] [])) (fun t_ k_ => XS.icmpYes X0.here hx rfl (pc0 := 116) (pc' := 123) rfl (hb hby own_d_method_2_116) rfl (feq hc116_25).2 (by decide) (by decide) k_) ?_
                            refine own_go (s₁.setTop (mkF m 124 #[.val (.int i)] [(.int i)])) (fun t_ k_ => XS.iloadN X0.here hx rfl (hb hby own_d_method_2_123) rfl k_) ?_
                            refine own_go (s₁.setTop (mkF m 126 #[.val (.int i)] [(.int (13 : Int32)), (.int i)])) (fun t_ k_ => XS.bipush X0.here hx rfl (hb hby own_d_method_2_124) k_) ?_
                            by_cases hc126_27 : i = (13 : Int32)
                            ·
                              refine own_go (s₁.setTop (mkF m 129 #[.val (.int i)] [])) (fun t_ k_ => XS.icmpNo X0.here hx rfl (hb hby own_d_method_2_126) rfl (teq hc126_27).2 k_) ?_
                              obtain ⟨T28, X28, e28, st28⟩ := getS2 X0 hx hZ hown (host := "") (Or.inl (hw _ (List.mem_of_getElem? (i := 38) rfl))) Via.refl e0 (S_GREATER.ext O) (g := (mkF m 129 #[.val (.int i)] [])) rfl (hb hby own_d_method_2_129)
                              refine own_go (T28.setTop (mkF m 132 #[.val (.int i)] [(.ref a_GREATER)])) (fun t_ k_ => st28 _ k_) ?_
                              obtain ⟨fs, hr, hrun, hended, hW, hsame⟩ := X28.leave (v := some (.ref a_GREATER)) (fun h => by rw [Bd.returns] at h; cases h)
                              refine ⟨_, _, Jvm.RoadKit.retOut X28 hx Bd.returns rfl (Or.inr (Or.inr (Or.inr (Or.inr ⟨rfl, rfl, rfl⟩)))) (hb hby own_d_method_2_132) hr, hrun, hended, _, _, rfl, ?_, ⟨_, rfl⟩, hW, hsame.mono (by decide) (by decide)⟩
                              show Q_pick Z i a_INTEGER a_NOT a_NEGATE a_FALSE a_TRUE a_STRING a_AND a_LESS a_NAME a_LESS_EQUAL a_SUBTRACT a_ADD a_NOT_EQUAL a_GREATER a_OR a_GREATER_EQUAL a_CALL a_EQUAL h0 _ T28.heap _
                              exact ⟨by simp [own_pick, hc1_1, hc10_3, hc19_5, hc28_7, hc37_9, hc46_11, hc56_13, hc66_15, hc76_17, hc86_19, hc96_21, hc106_23, hc116_25, hc126_27], N0, e28⟩
                            ·
                              refine own_go (s₁.setTop (mkF m 133 #[.val (.int i)] [])) (fun t_ k_ => XS.icmpYes X0.here hx rfl (pc0 := 126) (pc' := 133) rfl (hb hby own_d_method_2_126) rfl (feq hc126_27).2 (by decide) (by decide) k_) ?_
                              refine own_go (s₁.setTop (mkF m 134 #[.val (.int i)] [(.int i)])) (fun t_ k_ => XS.iloadN X0.here hx rfl (hb hby own_d_method_2_133) rfl k_) ?_
                              refine own_go (s₁.setTop (mkF m 136 #[.val (.int i)] [(.int (14 : Int32)), (.int i)])) (fun t_ k_ => XS.bipush X0.here hx rfl (hb hby own_d_method_2_134) k_) ?_
                              by_cases hc136_29 : i = (14 : Int32)
                              ·
                                refine own_go (s₁.setTop (mkF m 139 #[.val (.int i)] [])) (fun t_ k_ => XS.icmpNo X0.here hx rfl (hb hby own_d_method_2_136) rfl (teq hc136_29).2 k_) ?_
                                obtain ⟨T30, X30, e30, st30⟩ := getS2 X0 hx hZ hown (host := "") (Or.inl (hw _ (List.mem_of_getElem? (i := 43) rfl))) Via.refl e0 (S_GREATER_EQUAL.ext O) (g := (mkF m 139 #[.val (.int i)] [])) rfl (hb hby own_d_method_2_139)
                                refine own_go (T30.setTop (mkF m 142 #[.val (.int i)] [(.ref a_GREATER_EQUAL)])) (fun t_ k_ => st30 _ k_) ?_
                                obtain ⟨fs, hr, hrun, hended, hW, hsame⟩ := X30.leave (v := some (.ref a_GREATER_EQUAL)) (fun h => by rw [Bd.returns] at h; cases h)
                                refine ⟨_, _, Jvm.RoadKit.retOut X30 hx Bd.returns rfl (Or.inr (Or.inr (Or.inr (Or.inr ⟨rfl, rfl, rfl⟩)))) (hb hby own_d_method_2_142) hr, hrun, hended, _, _, rfl, ?_, ⟨_, rfl⟩, hW, hsame.mono (by decide) (by decide)⟩
                                show Q_pick Z i a_INTEGER a_NOT a_NEGATE a_FALSE a_TRUE a_STRING a_AND a_LESS a_NAME a_LESS_EQUAL a_SUBTRACT a_ADD a_NOT_EQUAL a_GREATER a_OR a_GREATER_EQUAL a_CALL a_EQUAL h0 _ T30.heap _
                                exact ⟨by simp [own_pick, hc1_1, hc10_3, hc19_5, hc28_7, hc37_9, hc46_11, hc56_13, hc66_15, hc76_17, hc86_19, hc96_21, hc106_23, hc116_25, hc126_27, hc136_29], N0, e30⟩
                              ·
                                refine own_go (s₁.setTop (mkF m 143 #[.val (.int i)] [])) (fun t_ k_ => XS.icmpYes X0.here hx rfl (pc0 := 136) (pc' := 143) rfl (hb hby own_d_method_2_136) rfl (feq hc136_29).2 (by decide) (by decide) k_) ?_
                                refine own_go (s₁.setTop (mkF m 144 #[.val (.int i)] [(.int i)])) (fun t_ k_ => XS.iloadN X0.here hx rfl (hb hby own_d_method_2_143) rfl k_) ?_
                                refine own_go (s₁.setTop (mkF m 146 #[.val (.int i)] [(.int (15 : Int32)), (.int i)])) (fun t_ k_ => XS.bipush X0.here hx rfl (hb hby own_d_method_2_144) k_) ?_
                                by_cases hc146_31 : i = (15 : Int32)
                                ·
                                  refine own_go (s₁.setTop (mkF m 149 #[.val (.int i)] [])) (fun t_ k_ => XS.icmpNo X0.here hx rfl (hb hby own_d_method_2_146) rfl (teq hc146_31).2 k_) ?_
                                  obtain ⟨T32, X32, e32, st32⟩ := getS2 X0 hx hZ hown (host := "") (Or.inl (hw _ (List.mem_of_getElem? (i := 34) rfl))) Via.refl e0 (S_ADD.ext O) (g := (mkF m 149 #[.val (.int i)] [])) rfl (hb hby own_d_method_2_149)
                                  refine own_go (T32.setTop (mkF m 152 #[.val (.int i)] [(.ref a_ADD)])) (fun t_ k_ => st32 _ k_) ?_
                                  obtain ⟨fs, hr, hrun, hended, hW, hsame⟩ := X32.leave (v := some (.ref a_ADD)) (fun h => by rw [Bd.returns] at h; cases h)
                                  refine ⟨_, _, Jvm.RoadKit.retOut X32 hx Bd.returns rfl (Or.inr (Or.inr (Or.inr (Or.inr ⟨rfl, rfl, rfl⟩)))) (hb hby own_d_method_2_152) hr, hrun, hended, _, _, rfl, ?_, ⟨_, rfl⟩, hW, hsame.mono (by decide) (by decide)⟩
                                  show Q_pick Z i a_INTEGER a_NOT a_NEGATE a_FALSE a_TRUE a_STRING a_AND a_LESS a_NAME a_LESS_EQUAL a_SUBTRACT a_ADD a_NOT_EQUAL a_GREATER a_OR a_GREATER_EQUAL a_CALL a_EQUAL h0 _ T32.heap _
                                  exact ⟨by simp [own_pick, hc1_1, hc10_3, hc19_5, hc28_7, hc37_9, hc46_11, hc56_13, hc66_15, hc76_17, hc86_19, hc96_21, hc106_23, hc116_25, hc126_27, hc136_29, hc146_31], N0, e32⟩
                                ·
                                  refine own_go (s₁.setTop (mkF m 153 #[.val (.int i)] [])) (fun t_ k_ => XS.icmpYes X0.here hx rfl (pc0 := 146) (pc' := 153) rfl (hb hby own_d_method_2_146) rfl (feq hc146_31).2 (by decide) (by decide) k_) ?_
                                  refine own_go (s₁.setTop (mkF m 154 #[.val (.int i)] [(.int i)])) (fun t_ k_ => XS.iloadN X0.here hx rfl (hb hby own_d_method_2_153) rfl k_) ?_
                                  refine own_go (s₁.setTop (mkF m 156 #[.val (.int i)] [(.int (16 : Int32)), (.int i)])) (fun t_ k_ => XS.bipush X0.here hx rfl (hb hby own_d_method_2_154) k_) ?_
                                  by_cases hc156_33 : i = (16 : Int32)
                                  ·
                                    refine own_go (s₁.setTop (mkF m 159 #[.val (.int i)] [])) (fun t_ k_ => XS.icmpNo X0.here hx rfl (hb hby own_d_method_2_156) rfl (teq hc156_33).2 k_) ?_
                                    obtain ⟨T34, X34, e34, st34⟩ := getS2 X0 hx hZ hown (host := "") (Or.inl (hw _ (List.mem_of_getElem? (i := 32) rfl))) Via.refl e0 (S_SUBTRACT.ext O) (g := (mkF m 159 #[.val (.int i)] [])) rfl (hb hby own_d_method_2_159)
                                    refine own_go (T34.setTop (mkF m 162 #[.val (.int i)] [(.ref a_SUBTRACT)])) (fun t_ k_ => st34 _ k_) ?_
                                    obtain ⟨fs, hr, hrun, hended, hW, hsame⟩ := X34.leave (v := some (.ref a_SUBTRACT)) (fun h => by rw [Bd.returns] at h; cases h)
                                    refine ⟨_, _, Jvm.RoadKit.retOut X34 hx Bd.returns rfl (Or.inr (Or.inr (Or.inr (Or.inr ⟨rfl, rfl, rfl⟩)))) (hb hby own_d_method_2_162) hr, hrun, hended, _, _, rfl, ?_, ⟨_, rfl⟩, hW, hsame.mono (by decide) (by decide)⟩
                                    show Q_pick Z i a_INTEGER a_NOT a_NEGATE a_FALSE a_TRUE a_STRING a_AND a_LESS a_NAME a_LESS_EQUAL a_SUBTRACT a_ADD a_NOT_EQUAL a_GREATER a_OR a_GREATER_EQUAL a_CALL a_EQUAL h0 _ T34.heap _
                                    exact ⟨by simp [own_pick, hc1_1, hc10_3, hc19_5, hc28_7, hc37_9, hc46_11, hc56_13, hc66_15, hc76_17, hc86_19, hc96_21, hc106_23, hc116_25, hc126_27, hc136_29, hc146_31, hc156_33], N0, e34⟩
                                  ·
                                    refine own_go (s₁.setTop (mkF m 163 #[.val (.int i)] [])) (fun t_ k_ => XS.icmpYes X0.here hx rfl (pc0 := 156) (pc' := 163) rfl (hb hby own_d_method_2_156) rfl (feq hc156_33).2 (by decide) (by decide) k_) ?_
                                    obtain ⟨T35, X35, e35, st35⟩ := getS2 X0 hx hZ hown (host := "") (Or.inl (hw _ (List.mem_of_getElem? (i := 42) rfl))) Via.refl e0 (S_NEGATE.ext O) (g := (mkF m 163 #[.val (.int i)] [])) rfl (hb hby own_d_method_2_163)
                                    refine own_go (T35.setTop (mkF m 166 #[.val (.int i)] [(.ref a_NEGATE)])) (fun t_ k_ => st35 _ k_) ?_
                                    obtain ⟨fs, hr, hrun, hended, hW, hsame⟩ := X35.leave (v := some (.ref a_NEGATE)) (fun h => by rw [Bd.returns] at h; cases h)
                                    refine ⟨_, _, Jvm.RoadKit.retOut X35 hx Bd.returns rfl (Or.inr (Or.inr (Or.inr (Or.inr ⟨rfl, rfl, rfl⟩)))) (hb hby own_d_method_2_166) hr, hrun, hended, _, _, rfl, ?_, ⟨_, rfl⟩, hW, hsame.mono (by decide) (by decide)⟩
                                    show Q_pick Z i a_INTEGER a_NOT a_NEGATE a_FALSE a_TRUE a_STRING a_AND a_LESS a_NAME a_LESS_EQUAL a_SUBTRACT a_ADD a_NOT_EQUAL a_GREATER a_OR a_GREATER_EQUAL a_CALL a_EQUAL h0 _ T35.heap _
                                    exact ⟨by simp [own_pick, hc1_1, hc10_3, hc19_5, hc28_7, hc37_9, hc46_11, hc56_13, hc66_15, hc76_17, hc86_19, hc96_21, hc106_23, hc116_25, hc126_27, hc136_29, hc146_31, hc156_33], N0, e35⟩
theorem own_pn1 : plainName "com/example/conformal/conformal/Expression$Operator" = true := by first | (simp [plainName, overriddenIn]; done) | decide +kernel
theorem own_ef_ip (m : MethodId) (a : Addr) : entryFrame m #[(.ref a)] 1 = mkF m 0 #[.val (.ref a)] [] := by first | (simp [entryFrame, mkF, argsToLocals, Value.category]; done) | rfl
theorem own_d_prog_16_method_6_0 : decode prog_16_method_6_code 0 = .ok (.aload_n 0, 1) := by decide +kernel
theorem own_d_prog_16_method_6_1 : decode prog_16_method_6_code 1 = .ok (.getstatic 28, 3) := by decide +kernel
theorem own_d_prog_16_method_6_4 : decode prog_16_method_6_code 4 = .ok (.if_acmp .eq 10, 3) := by decide +kernel
theorem own_d_prog_16_method_6_14 : decode prog_16_method_6_code 14 = .ok (.iconst 1, 1) := by decide +kernel
theorem own_d_prog_16_method_6_15 : decode prog_16_method_6_code 15 = .ok (.goto 4, 3) := by decide +kernel
theorem own_d_prog_16_method_6_19 : decode prog_16_method_6_code 19 = .ok (.ireturn, 1) := by decide +kernel
theorem own_d_prog_16_method_6_7 : decode prog_16_method_6_code 7 = .ok (.aload_n 0, 1) := by decide +kernel
theorem own_d_prog_16_method_6_8 : decode prog_16_method_6_code 8 = .ok (.getstatic 55, 3) := by decide +kernel
theorem own_d_prog_16_method_6_11 : decode prog_16_method_6_code 11 = .ok (.if_acmp .ne 7, 3) := by decide +kernel
theorem own_d_prog_16_method_6_18 : decode prog_16_method_6_code 18 = .ok (.iconst 0, 1) := by decide +kernel
def Q_ip (Z : State) (a : Addr) (a_INTEGER : Addr) (a_NOT : Addr) (a_NEGATE : Addr) (a_FALSE : Addr) (a_TRUE : Addr) (a_STRING : Addr) (a_AND : Addr) (a_LESS : Addr) (a_NAME : Addr) (a_LESS_EQUAL : Addr) (a_SUBTRACT : Addr) (a_ADD : Addr) (a_NOT_EQUAL : Addr) (a_GREATER : Addr) (a_OR : Addr) (a_GREATER_EQUAL : Addr) (a_CALL : Addr) (a_EQUAL : Addr) (h0 : Heap) (v_ : Option Value) (h : Heap) (L_ : List Loc) : Prop := v_ = some (.int (if a = a_NOT then 1 else if a = a_NEGATE then 1 else 0)) ∧ Fr Z.heap.size L_ ∧ (h = h0)
set_option maxRecDepth 65536 in
set_option maxHeartbeats 40000000 in
theorem rm_ip (l : Launch) (Z : State) (a0 : Array Value) (hw : ∀ d ∈ tables_1, d.before a0 Z = true) (ws : List Jvm.Cond) (a : Addr) (a_INTEGER : Addr) (a_NOT : Addr) (a_NEGATE : Addr) (a_FALSE : Addr) (a_TRUE : Addr) (a_STRING : Addr) (a_AND : Addr) (a_LESS : Addr) (a_NAME : Addr) (a_LESS_EQUAL : Addr) (a_SUBTRACT : Addr) (a_ADD : Addr) (a_NOT_EQUAL : Addr) (a_GREATER : Addr) (a_OR : Addr) (a_GREATER_EQUAL : Addr) (a_CALL : Addr) (a_EQUAL : Addr) (h0 : Heap) (O : Ext Z.heap h0) (w : own_W Z a_INTEGER a_NOT a_NEGATE a_FALSE a_TRUE a_STRING a_AND a_LESS a_NAME a_LESS_EQUAL a_SUBTRACT a_ADD a_NOT_EQUAL a_GREATER a_OR a_GREATER_EQUAL a_CALL a_EQUAL) :
    MetFree l (⟨"com/example/conformal/conformal/Expression$Operator", "isPrefix", "()Z"⟩ : MethodName) (head1 (Jvm.Cond.code (⟨"com/example/conformal/conformal/Expression$Operator", "isPrefix", "()Z"⟩ : MethodName) prog_16_method_6_code 1 (some .boolean) :: ws) ({ frames := 0, cells := 0, slots := 0, locals := 0 } : Room)) (fun a_ U_ => a_ = #[(.ref a)] ∧ Z.Warmed39 U_.vm ∧ U_.heap = h0) (fun _ _ _ _ _ => True) (fun _ U_ o_ U2_ => ∃ v_ L_, o_ = .returned v_ ∧ Q_ip Z a a_INTEGER a_NOT a_NEGATE a_FALSE a_TRUE a_STRING a_AND a_LESS a_NAME a_LESS_EQUAL a_SUBTRACT a_ADD a_NOT_EQUAL a_GREATER a_OR a_GREATER_EQUAL a_CALL a_EQUAL h0 v_ U2_.heap L_ ∧ FrameEnd U_ o_ U2_ L_ ({ frames := 0, cells := 0, slots := 0, locals := 0 } : Room).cells ({ frames := 0, cells := 0, slots := 0, locals := 0 } : Room).slots) := by
  refine MetFree.of_bodySF (plainFor_of_name own_pn1) hisR ?_
  intro p e s m args below meth c s₁ Bd hml0 hP hK
  obtain ⟨rfl, hZ, hh⟩ := hP
  have hx := Bd.exec
  have hby := Bd.bytes
  have hml : c.maxLocals = 1 := hml0
  have hown : s.vm.findClass "com/example/conformal/conformal/Expression$Operator" = some m.cls := findClass_of_methodNamed Bd.named
  have hnm := (name_of_methodNamed Bd.named Bd.method).1
  have X0 : Stand p l e ({ frames := 0, cells := 0, slots := 0, locals := 0 } : Room) s m #[(.ref a)] below meth c s₁ [] 0 0 := Stand.of_body Bd
  have e0 : s₁.heap = h0 := by rw [← hh, Bd.state]; rfl
  have N0 := Fr.nil Z.heap.size
  show own_G p e below (fun o_ s₂ => ∃ v_ L_, o_ = .returned v_ ∧ Q_ip Z a a_INTEGER a_NOT a_NEGATE a_FALSE a_TRUE a_STRING a_AND a_LESS a_NAME a_LESS_EQUAL a_SUBTRACT a_ADD a_NOT_EQUAL a_GREATER a_OR a_GREATER_EQUAL a_CALL a_EQUAL h0 v_ s₂.heap L_ ∧ FrameEnd s o_ s₂ L_ ({ frames := 0, cells := 0, slots := 0, locals := 0 } : Room).cells ({ frames := 0, cells := 0, slots := 0, locals := 0 } : Room).slots) (s₁.setTop (entryFrame m #[(.ref a)] 1))
  refine own_go (s₁.setTop (mkF m 0 #[.val (.ref a)] [])) (fun t_ k_ => castTop (own_ef_ip m a) k_) ?_
  have w' := w
  obtain ⟨S_INTEGER, X_INTEGER, S_NOT, X_NOT, S_NEGATE, X_NEGATE, S_FALSE, X_FALSE, S_TRUE, X_TRUE, S_STRING, X_STRING, S_AND, X_AND, S_LESS, X_LESS, S_NAME, X_NAME, S_LESS_EQUAL, X_LESS_EQUAL, S_SUBTRACT, X_SUBTRACT, S_ADD, X_ADD, S_NOT_EQUAL, X_NOT_EQUAL, S_GREATER, X_GREATER, S_OR, X_OR, S_GREATER_EQUAL, X_GREATER_EQUAL, S_CALL, X_CALL, S_EQUAL, X_EQUAL, F_INTEGER_ordinal, F_NOT_ordinal, F_NEGATE_ordinal, F_FALSE_ordinal, F_TRUE_ordinal, F_STRING_ordinal, F_AND_ordinal, F_LESS_ordinal, F_NAME_ordinal, F_LESS_EQUAL_ordinal, F_SUBTRACT_ordinal, F_ADD_ordinal, F_NOT_EQUAL_ordinal, F_GREATER_ordinal, F_OR_ordinal, F_GREATER_EQUAL_ordinal, F_CALL_ordinal, F_EQUAL_ordinal⟩ := w'
  refine own_go (s₁.setTop (mkF m 1 #[.val (.ref a)] [(.ref a)])) (fun t_ k_ => XS.aloadN X0.here hx rfl (hb hby own_d_prog_16_method_6_0) rfl rfl k_) ?_
  obtain ⟨T1, X1, e1, st1⟩ := getS2 X0 hx hZ hown (host := "") (Or.inl (hw _ (List.mem_of_getElem? (i := 13) rfl))) Via.refl e0 (S_NOT.ext O) (g := (mkF m 1 #[.val (.ref a)] [(.ref a)])) rfl (hb hby own_d_prog_16_method_6_1)
  refine own_go (T1.setTop (mkF m 4 #[.val (.ref a)] [(.ref a_NOT), (.ref a)])) (fun t_ k_ => st1 _ k_) ?_
  by_cases ha4_2 : a = a_NOT
  ·
    refine own_go (T1.setTop (mkF m 14 #[.val (.ref a)] [])) (fun t_ k_ => Jvm.RoadKit.acmp (g := (mkF m 4 #[.val (.ref a)] [(.ref a_NOT), (.ref a)])) X1 hx rfl rfl rfl (pc0 := 4) (pc' := 14) (same := true) rfl (hb hby own_d_prog_16_method_6_4) rfl (decide_eq_true (congrArg Value.ref ha4_2)) (by decide) (by decide) k_) ?_
    refine own_go (T1.setTop (mkF m 15 #[.val (.ref a)] [(.int (1 : Int32))])) (fun t_ k_ => XS.iconst X1.here hx rfl (hb hby own_d_prog_16_method_6_14) k_) ?_
    refine own_go (T1.setTop (mkF m 19 #[.val (.ref a)] [(.int (1 : Int32))])) (fun t_ k_ => XS.goto X1.here hx rfl (pc0 := 15) (pc' := 19) rfl (hb hby own_d_prog_16_method_6_15) (by decide) (by decide) k_) ?_
    obtain ⟨fs, hr, hrun, hended, hW, hsame⟩ := X1.leave (v := some (.int (nar .boolean (1 : Int32)))) (fun h => by rw [Bd.returns] at h; cases h)
    refine ⟨_, _, retN X1 hx (t := .boolean) Bd.returns (by simp) (hb hby own_d_prog_16_method_6_19) hr, hrun, hended, _, _, rfl, ?_, ⟨_, rfl⟩, hW, hsame.mono (by decide) (by decide)⟩
    show Q_ip Z a a_INTEGER a_NOT a_NEGATE a_FALSE a_TRUE a_STRING a_AND a_LESS a_NAME a_LESS_EQUAL a_SUBTRACT a_ADD a_NOT_EQUAL a_GREATER a_OR a_GREATER_EQUAL a_CALL a_EQUAL h0 _ T1.heap _
    exact ⟨by first | (simp [ha4_2]; done) | (simp [ha4_2]; rfl), N0, e1⟩
  ·
    refine own_go (T1.setTop (mkF m 7 #[.val (.ref a)] [])) (fun t_ k_ => Jvm.RoadKit.acmp (g := (mkF m 4 #[.val (.ref a)] [(.ref a_NOT), (.ref a)])) X1 hx rfl rfl rfl (pc0 := 4) (pc' := 7) (same := false) rfl (hb hby own_d_prog_16_method_6_4) rfl (decide_eq_false fun q => ha4_2 (Value.ref.inj q)) (by decide) (by decide) k_) ?_
    refine own_go (T1.setTop (mkF m 8 #[.val (.ref a)] [(.ref a)])) (fun t_ k_ => XS.aloadN X1.here hx rfl (hb hby own_d_prog_16_method_6_7) rfl rfl k_) ?_
    obtain ⟨T3, X3, e3, st3⟩ := getS2 X1 hx hZ hown (host := "") (Or.inl (hw _ (List.mem_of_getElem? (i := 15) rfl))) Via.refl e1 (S_NEGATE.ext O) (g := (mkF m 8 #[.val (.ref a)] [(.ref a)])) rfl (hb hby own_d_prog_16_method_6_8)
    refine own_go (T3.setTop (mkF m 11 #[.val (.ref a)] [(.ref a_NEGATE), (.ref a)])) (fun t_ k_ => st3 _ k_) ?_
    by_cases ha11_4 : a = a_NEGATE
    ·
      refine own_go (T3.setTop (mkF m 14 #[.val (.ref a)] [])) (fun t_ k_ => Jvm.RoadKit.acmp (g := (mkF m 11 #[.val (.ref a)] [(.ref a_NEGATE), (.ref a)])) X3 hx rfl rfl rfl (pc0 := 11) (pc' := 14) (same := true) rfl (hb hby own_d_prog_16_method_6_11) rfl (decide_eq_true (congrArg Value.ref ha11_4)) (by decide) (by decide) k_) ?_
      refine own_go (T3.setTop (mkF m 15 #[.val (.ref a)] [(.int (1 : Int32))])) (fun t_ k_ => XS.iconst X3.here hx rfl (hb hby own_d_prog_16_method_6_14) k_) ?_
      refine own_go (T3.setTop (mkF m 19 #[.val (.ref a)] [(.int (1 : Int32))])) (fun t_ k_ => XS.goto X3.here hx rfl (pc0 := 15) (pc' := 19) rfl (hb hby own_d_prog_16_method_6_15) (by decide) (by decide) k_) ?_
      obtain ⟨fs, hr, hrun, hended, hW, hsame⟩ := X3.leave (v := some (.int (nar .boolean (1 : Int32)))) (fun h => by rw [Bd.returns] at h; cases h)
      refine ⟨_, _, retN X3 hx (t := .boolean) Bd.returns (by simp) (hb hby own_d_prog_16_method_6_19) hr, hrun, hended, _, _, rfl, ?_, ⟨_, rfl⟩, hW, hsame.mono (by decide) (by decide)⟩
      show Q_ip Z a a_INTEGER a_NOT a_NEGATE a_FALSE a_TRUE a_STRING a_AND a_LESS a_NAME a_LESS_EQUAL a_SUBTRACT a_ADD a_NOT_EQUAL a_GREATER a_OR a_GREATER_EQUAL a_CALL a_EQUAL h0 _ T3.heap _
      exact ⟨by first | (simp [ha4_2, ha11_4]; done) | (simp [ha4_2, ha11_4]; rfl), N0, e3⟩
    ·
      refine own_go (T3.setTop (mkF m 18 #[.val (.ref a)] [])) (fun t_ k_ => Jvm.RoadKit.acmp (g := (mkF m 11 #[.val (.ref a)] [(.ref a_NEGATE), (.ref a)])) X3 hx rfl rfl rfl (pc0 := 11) (pc' := 18) (same := false) rfl (hb hby own_d_prog_16_method_6_11) rfl (decide_eq_false fun q => ha11_4 (Value.ref.inj q)) (by decide) (by decide) k_) ?_
      refine own_go (T3.setTop (mkF m 19 #[.val (.ref a)] [(.int (0 : Int32))])) (fun t_ k_ => XS.iconst X3.here hx rfl (hb hby own_d_prog_16_method_6_18) k_) ?_
      obtain ⟨fs, hr, hrun, hended, hW, hsame⟩ := X3.leave (v := some (.int (nar .boolean (0 : Int32)))) (fun h => by rw [Bd.returns] at h; cases h)
      refine ⟨_, _, retN X3 hx (t := .boolean) Bd.returns (by simp) (hb hby own_d_prog_16_method_6_19) hr, hrun, hended, _, _, rfl, ?_, ⟨_, rfl⟩, hW, hsame.mono (by decide) (by decide)⟩
      show Q_ip Z a a_INTEGER a_NOT a_NEGATE a_FALSE a_TRUE a_STRING a_AND a_LESS a_NAME a_LESS_EQUAL a_SUBTRACT a_ADD a_NOT_EQUAL a_GREATER a_OR a_GREATER_EQUAL a_CALL a_EQUAL h0 _ T3.heap _
      exact ⟨by first | (simp [ha4_2, ha11_4]; done) | (simp [ha4_2, ha11_4]; rfl), N0, e3⟩
theorem own_ef_law (m : MethodId) (p0 : Int32) : entryFrame m #[(.int p0)] maxLocals = mkF m 0 #[.val (.int p0), .unset, .unset, .unset] [] := by first | (simp [entryFrame, mkF, argsToLocals, Value.category, maxLocals]; done) | rfl
theorem own_pd0 : parseMethodDescriptor "(I)Lcom/example/conformal/conformal/Expression$Operator;" = some ⟨[.int], some (.object "com/example/conformal/conformal/Expression$Operator")⟩ := by decide +kernel
theorem own_pd1 : parseMethodDescriptor "()Z" = some ⟨[], some .boolean⟩ := by decide +kernel
def Q_law (Z : State) (p0 : Int32) (a_INTEGER : Addr) (a_NOT : Addr) (a_NEGATE : Addr) (a_FALSE : Addr) (a_TRUE : Addr) (a_STRING : Addr) (a_AND : Addr) (a_LESS : Addr) (a_NAME : Addr) (a_LESS_EQUAL : Addr) (a_SUBTRACT : Addr) (a_ADD : Addr) (a_NOT_EQUAL : Addr) (a_GREATER : Addr) (a_OR : Addr) (a_GREATER_EQUAL : Addr) (a_CALL : Addr) (a_EQUAL : Addr) (h0 : Heap) (v_ : Option Value) (h : Heap) (L_ : List Loc) : Prop := v_ = some (.int 1) ∧ Fr Z.heap.size L_ ∧ (True)
set_option maxRecDepth 65536 in
set_option maxHeartbeats 40000000 in
theorem rm_law (l : Launch) (Z : State) (a0 : Array Value) (hw : ∀ d ∈ tables_1, d.before a0 Z = true) (ws : List Jvm.Cond) (p0 : Int32) (a_INTEGER : Addr) (a_NOT : Addr) (a_NEGATE : Addr) (a_FALSE : Addr) (a_TRUE : Addr) (a_STRING : Addr) (a_AND : Addr) (a_LESS : Addr) (a_NAME : Addr) (a_LESS_EQUAL : Addr) (a_SUBTRACT : Addr) (a_ADD : Addr) (a_NOT_EQUAL : Addr) (a_GREATER : Addr) (a_OR : Addr) (a_GREATER_EQUAL : Addr) (a_CALL : Addr) (a_EQUAL : Addr) (h0 : Heap) (O : Ext Z.heap h0) (w : own_W Z a_INTEGER a_NOT a_NEGATE a_FALSE a_TRUE a_STRING a_AND a_LESS a_NAME a_LESS_EQUAL a_SUBTRACT a_ADD a_NOT_EQUAL a_GREATER a_OR a_GREATER_EQUAL a_CALL a_EQUAL) :
    MetFree l x (head1 (Jvm.Cond.code x code maxLocals ret :: ws) room_1) (fun a_ U_ => a_ = #[(.int p0)] ∧ Z.Warmed39 U_.vm ∧ U_.heap = h0) (fun _ _ _ _ _ => True) (fun _ U_ o_ U2_ => ∃ v_ L_, o_ = .returned v_ ∧ Q_law Z p0 a_INTEGER a_NOT a_NEGATE a_FALSE a_TRUE a_STRING a_AND a_LESS a_NAME a_LESS_EQUAL a_SUBTRACT a_ADD a_NOT_EQUAL a_GREATER a_OR a_GREATER_EQUAL a_CALL a_EQUAL h0 v_ U2_.heap L_ ∧ FrameEnd U_ o_ U2_ L_ room_1.cells room_1.slots) := by
  refine MetFree.of_bodySF (plainFor_of_name own_pn0) hisR ?_
  intro p e s m args below meth c s₁ Bd hml0 hP hK
  obtain ⟨rfl, hZ, hh⟩ := hP
  have hx := Bd.exec
  have hby := Bd.bytes
  have hml : c.maxLocals = 4 := hml0
  have hown : s.vm.findClass "com/example/conformal/conformal/OperatorIsPrefixPinLaw" = some m.cls := findClass_of_methodNamed Bd.named
  have hnm := (name_of_methodNamed Bd.named Bd.method).1
  have X0 : Stand p l e room_1 s m #[(.int p0)] below meth c s₁ [] 0 0 := Stand.of_body Bd
  have e0 : s₁.heap = h0 := by rw [← hh, Bd.state]; rfl
  have N0 := Fr.nil Z.heap.size
  show own_G p e below (fun o_ s₂ => ∃ v_ L_, o_ = .returned v_ ∧ Q_law Z p0 a_INTEGER a_NOT a_NEGATE a_FALSE a_TRUE a_STRING a_AND a_LESS a_NAME a_LESS_EQUAL a_SUBTRACT a_ADD a_NOT_EQUAL a_GREATER a_OR a_GREATER_EQUAL a_CALL a_EQUAL h0 v_ s₂.heap L_ ∧ FrameEnd s o_ s₂ L_ room_1.cells room_1.slots) (s₁.setTop (entryFrame m #[(.int p0)] maxLocals))
  refine own_go (s₁.setTop (mkF m 0 #[.val (.int p0), .unset, .unset, .unset] [])) (fun t_ k_ => castTop (own_ef_law m p0) k_) ?_
  have w' := w
  obtain ⟨S_INTEGER, X_INTEGER, S_NOT, X_NOT, S_NEGATE, X_NEGATE, S_FALSE, X_FALSE, S_TRUE, X_TRUE, S_STRING, X_STRING, S_AND, X_AND, S_LESS, X_LESS, S_NAME, X_NAME, S_LESS_EQUAL, X_LESS_EQUAL, S_SUBTRACT, X_SUBTRACT, S_ADD, X_ADD, S_NOT_EQUAL, X_NOT_EQUAL, S_GREATER, X_GREATER, S_OR, X_OR, S_GREATER_EQUAL, X_GREATER_EQUAL, S_CALL, X_CALL, S_EQUAL, X_EQUAL, F_INTEGER_ordinal, F_NOT_ordinal, F_NEGATE_ordinal, F_FALSE_ordinal, F_TRUE_ordinal, F_STRING_ordinal, F_AND_ordinal, F_LESS_ordinal, F_NAME_ordinal, F_LESS_EQUAL_ordinal, F_SUBTRACT_ordinal, F_ADD_ordinal, F_NOT_EQUAL_ordinal, F_GREATER_ordinal, F_OR_ordinal, F_GREATER_EQUAL_ordinal, F_CALL_ordinal, F_EQUAL_ordinal⟩ := w'
  refine own_go (s₁.setTop (mkF m 1 #[.val (.int p0), .unset, .unset, .unset] [(.int p0)])) (fun t_ k_ => XS.iloadN X0.here hx rfl (hb hby at_0) rfl k_) ?_
  refine own_go (s₁.setTop (mkF m 3 #[.val (.int p0), .unset, .unset, .unset] [(.int (2147483647 : Int32)), (.int p0)])) (fun t_ k_ => X0.ldcInt hx hown (mvT hZ (hw _ (List.mem_of_getElem? (i := 0) rfl))) (g := (mkF m 1 #[.val (.int p0), .unset, .unset, .unset] [(.int p0)])) rfl (hb hby at_1) _ k_) ?_
  refine own_go (s₁.setTop (mkF m 4 #[.val (.int p0), .unset, .unset, .unset] [(.int (p0 &&& (2147483647 : Int32)))])) (fun t_ k_ => XS.iand X0.here hx rfl (hb hby at_3) rfl k_) ?_
  refine own_go (s₁.setTop (mkF m 6 #[.val (.int p0), .unset, .unset, .unset] [(.int (18 : Int32)), (.int (p0 &&& (2147483647 : Int32)))])) (fun t_ k_ => XS.bipush X0.here hx rfl (hb hby at_4) k_) ?_
  refine own_go (s₁.setTop (mkF m 7 #[.val (.int p0), .unset, .unset, .unset] [(.int ((p0 &&& (2147483647 : Int32)) % (18 : Int32)))])) (fun t_ k_ => Jvm.RoadKit.iremM X0 hx rfl (hb hby at_6) rfl (by decide) k_) ?_
  refine own_go (s₁.setTop (mkF m 8 #[.val (.int p0), .val (.int ((p0 &&& (2147483647 : Int32)) % (18 : Int32))), .unset, .unset] [])) (fun t_ k_ => XS.istoreN X0.here hx rfl (hb hby at_7) rfl (l' := #[.val (.int p0), .val (.int ((p0 &&& (2147483647 : Int32)) % (18 : Int32))), .unset, .unset]) rfl k_) ?_
  obtain ⟨hi0, hi1⟩ := own_mod p0 18 (by decide)
  obtain ⟨i, hi⟩ : ∃ z, z = ((p0 &&& (2147483647 : Int32)) % (18 : Int32)) := ⟨_, rfl⟩
  rw [← hi] at hi0 hi1
  rw [← hi]
  have ho := own_pick_ord i w hi0 hi1
  have hxo := own_pick_exa i w
  obtain ⟨o, hoo⟩ : ∃ z, z = own_pick i a_INTEGER a_STRING a_TRUE a_FALSE a_NAME a_CALL a_OR a_AND a_NOT a_EQUAL a_NOT_EQUAL a_LESS a_LESS_EQUAL a_GREATER a_GREATER_EQUAL a_ADD a_SUBTRACT a_NEGATE := ⟨_, rfl⟩
  rw [← hoo] at ho hxo
  refine own_go (s₁.setTop (mkF m 9 #[.val (.int p0), .val (.int i), .unset, .unset] [(.int i)])) (fun t_ k_ => XS.iloadN X0.here hx rfl (hb hby at_8) rfl k_) ?_
  obtain ⟨_, _, ⟨T1, Lu1, ku1, nu1⟩, -, X1, ⟨Lc1, hQ1, lu1, yu1, zu1⟩, st1⟩ := Jvm.LawKit.callS X0 hx (y := (⟨"com/example/conformal/conformal/OperatorIsPrefixPinLaw", "pick", "(I)Lcom/example/conformal/conformal/Expression$Operator;"⟩ : MethodName)) hown (mvT hZ (hw _ (List.mem_of_getElem? (i := 1) rfl))) (mvT hZ (hw _ (List.mem_of_getElem? (i := 2) rfl))) (mvT hZ (hw _ (List.mem_of_getElem? (i := 3) rfl))) (mvT hZ (hw _ (List.mem_of_getElem? (i := 4) rfl))) (by decide) (backOf (W := 0) (rm_pick l Z a0 hw [] (i) (a_INTEGER) (a_NOT) (a_NEGATE) (a_FALSE) (a_TRUE) (a_STRING) (a_AND) (a_LESS) (a_NAME) (a_LESS_EQUAL) (a_SUBTRACT) (a_ADD) (a_NOT_EQUAL) (a_GREATER) (a_OR) (a_GREATER_EQUAL) (a_CALL) (a_EQUAL) h0 O w) hZ (hw _ (List.mem_of_getElem? (i := 4) rfl)) (hw _ (List.mem_of_getElem? (i := 3) rfl)) (by decide) (by decide)) (g := (mkF m 9 #[.val (.int p0), .val (.int i), .unset, .unset] [(.int i)])) rfl (by rw [hml]; rfl) (argsL := [(.int i)]) (rest := []) (lenOf own_pd0 rfl) rfl (by show 2 * 0 + _ ≤ _; exact Nat.le_of_eq rfl) (hb hby at_9) (fun _ _ => ⟨rfl, e0, (by decide : 0 + 0 ≤ _), (by decide : 0 + 0 ≤ _)⟩)
  dsimp only [Pt.U, Pt.locs, Pt.cells, Pt.slots] at X1 lu1 yu1 zu1 st1 hQ1
  subst lu1 yu1 zu1
  obtain ⟨rfl, N1q, e1⟩ := hQ1
  have N1 := Fr.app N0 N1q
  rw [← hoo] at st1
  refine own_go (T1.setTop (mkF m 12 #[.val (.int p0), .val (.int i), .unset, .unset] [(.ref o)])) (fun t_ k_ => st1 _ k_) ?_
  refine own_go (T1.setTop (mkF m 13 #[.val (.int p0), .val (.int i), .val (.ref o), .unset] [])) (fun t_ k_ => XS.astoreN X1.here hx rfl (hb hby at_12) rfl rfl (l' := #[.val (.int p0), .val (.int i), .val (.ref o), .unset]) rfl k_) ?_
  refine own_go (T1.setTop (mkF m 14 #[.val (.int p0), .val (.int i), .val (.ref o), .unset] [(.int i)])) (fun t_ k_ => XS.iloadN X1.here hx rfl (hb hby at_13) rfl k_) ?_
  refine own_go (T1.setTop (mkF m 16 #[.val (.int p0), .val (.int i), .val (.ref o), .unset] [(.int (8 : Int32)), (.int i)])) (fun t_ k_ => XS.bipush X1.here hx rfl (hb hby at_14) k_) ?_
  by_cases hc16_2 : i = (8 : Int32)
  ·
    refine own_go (T1.setTop (mkF m 25 #[.val (.int p0), .val (.int i), .val (.ref o), .unset] [])) (fun t_ k_ => XS.icmpYes X1.here hx rfl (pc0 := 16) (pc' := 25) rfl (hb hby at_16) rfl (teq hc16_2).1 (by decide) (by decide) k_) ?_
    refine own_go (T1.setTop (mkF m 26 #[.val (.int p0), .val (.int i), .val (.ref o), .unset] [(.int (1 : Int32))])) (fun t_ k_ => XS.iconst X1.here hx rfl (hb hby at_25) k_) ?_
    refine own_go (T1.setTop (mkF m 30 #[.val (.int p0), .val (.int i), .val (.ref o), .unset] [(.int (1 : Int32))])) (fun t_ k_ => XS.goto X1.here hx rfl (pc0 := 26) (pc' := 30) rfl (hb hby at_26) (by decide) (by decide) k_) ?_
    refine own_go (T1.setTop (mkF m 31 #[.val (.int p0), .val (.int i), .val (.ref o), .val (.int (1 : Int32))] [])) (fun t_ k_ => XS.istoreN X1.here hx rfl (hb hby at_30) rfl (l' := #[.val (.int p0), .val (.int i), .val (.ref o), .val (.int (1 : Int32))]) rfl k_) ?_
    refine own_go (T1.setTop (mkF m 32 #[.val (.int p0), .val (.int i), .val (.ref o), .val (.int (1 : Int32))] [(.ref o)])) (fun t_ k_ => XS.aloadN X1.here hx rfl (hb hby at_31) rfl rfl k_) ?_
    obtain ⟨cq3, kq3, q3a, q3b, q3c⟩ := isOf hZ e1 (hxo.ext O)
    obtain ⟨_, _, ⟨T3, Lu3, ku3, nu3⟩, -, X3, ⟨Lc3, hQ3, lu3, yu3, zu3⟩, st3⟩ := X1.virtualBack hx (y := (⟨"com/example/conformal/conformal/Expression$Operator", "isPrefix", "()Z"⟩ : MethodName)) (z := (⟨"com/example/conformal/conformal/Expression$Operator", "isPrefix", "()Z"⟩ : MethodName)) hown (mvT hZ (hw _ (List.mem_of_getElem? (i := 8) rfl))) (mvT hZ (hw _ (List.mem_of_getElem? (i := 9) rfl))) (notFace_of_selects (args := #[]) (mvT hZ (hw _ (List.mem_of_getElem? (i := 11) rfl)))) (mvT hZ (hw _ (List.mem_of_getElem? (i := 11) rfl))) (mvT hZ (hw _ (List.mem_of_getElem? (i := 10) rfl))) (by decide) (backOf (W := 0) (rm_ip l Z a0 hw [] (o) (a_INTEGER) (a_NOT) (a_NEGATE) (a_FALSE) (a_TRUE) (a_STRING) (a_AND) (a_LESS) (a_NAME) (a_LESS_EQUAL) (a_SUBTRACT) (a_ADD) (a_NOT_EQUAL) (a_GREATER) (a_OR) (a_GREATER_EQUAL) (a_CALL) (a_EQUAL) h0 O w) hZ (hw _ (List.mem_of_getElem? (i := 12) rfl)) (hw _ (List.mem_of_getElem? (i := 6) rfl)) (by decide) (by decide)) q3a q3c (g := (mkF m 32 #[.val (.int p0), .val (.int i), .val (.ref o), .val (.int (1 : Int32))] [(.ref o)])) rfl (by rw [hml]; rfl) (Steps.refl _) (argsL := []) (rest := []) (lenOf own_pd1 rfl) rfl (by show 2 * 0 + _ ≤ _; exact Nat.le_of_eq rfl) (hb hby at_32) (fun _ _ => ⟨rfl, e1, (by decide : 0 + 0 ≤ _), (by decide : 0 + 0 ≤ _)⟩)
    dsimp only [Pt.U, Pt.locs, Pt.cells, Pt.slots] at X3 lu3 yu3 zu3 st3 hQ3
    subst lu3 yu3 zu3
    obtain ⟨rfl, N3q, e3⟩ := hQ3
    have N3 := Fr.app N1 N3q
    refine own_go (T3.setTop (mkF m 35 #[.val (.int p0), .val (.int i), .val (.ref o), .val (.int (1 : Int32))] [(.int (if o = a_NOT then 1 else if o = a_NEGATE then 1 else 0))])) (fun t_ k_ => st3.trans k_) ?_
    refine own_go (T3.setTop (mkF m 36 #[.val (.int p0), .val (.int i), .val (.ref o), .val (.int (1 : Int32))] [(.int (1 : Int32)), (.int (if o = a_NOT then 1 else if o = a_NEGATE then 1 else 0))])) (fun t_ k_ => XS.iloadN X3.here hx rfl (hb hby at_35) rfl k_) ?_
    have q : o = a_NOT := by rw [hoo, hc16_2] <;> rfl
    have hfin : (if o = a_NOT then 1 else if o = a_NEGATE then 1 else 0) = (1 : Int32) := by simp [q]
    refine own_go (T3.setTop (mkF m 39 #[.val (.int p0), .val (.int i), .val (.ref o), .val (.int (1 : Int32))] [])) (fun t_ k_ => XS.icmpNo X3.here hx rfl (hb hby at_36) rfl (teq hfin).2 k_) ?_
    refine own_go (T3.setTop (mkF m 40 #[.val (.int p0), .val (.int i), .val (.ref o), .val (.int (1 : Int32))] [(.int (1 : Int32))])) (fun t_ k_ => XS.iconst X3.here hx rfl (hb hby at_39) k_) ?_
    refine own_go (T3.setTop (mkF m 44 #[.val (.int p0), .val (.int i), .val (.ref o), .val (.int (1 : Int32))] [(.int (1 : Int32))])) (fun t_ k_ => XS.goto X3.here hx rfl (pc0 := 40) (pc' := 44) rfl (hb hby at_40) (by decide) (by decide) k_) ?_
    obtain ⟨fs, hr, hrun, hended, hW, hsame⟩ := X3.leave (v := some (.int (nar .boolean (1 : Int32)))) (fun h => by rw [Bd.returns] at h; cases h)
    refine ⟨_, _, retN X3 hx (t := .boolean) Bd.returns (by simp) (hb hby at_44) hr, hrun, hended, _, _, rfl, ?_, ⟨_, rfl⟩, hW, hsame.mono (by decide) (by decide)⟩
    show Q_law Z p0 a_INTEGER a_NOT a_NEGATE a_FALSE a_TRUE a_STRING a_AND a_LESS a_NAME a_LESS_EQUAL a_SUBTRACT a_ADD a_NOT_EQUAL a_GREATER a_OR a_GREATER_EQUAL a_CALL a_EQUAL h0 _ T3.heap _
    exact ⟨rfl, N3, trivial⟩
  ·
    refine own_go (T1.setTop (mkF m 19 #[.val (.int p0), .val (.int i), .val (.ref o), .unset] [])) (fun t_ k_ => XS.icmpNo X1.here hx rfl (hb hby at_16) rfl (feq hc16_2).1 k_) ?_
    refine own_go (T1.setTop (mkF m 20 #[.val (.int p0), .val (.int i), .val (.ref o), .unset] [(.int i)])) (fun t_ k_ => XS.iloadN X1.here hx rfl (hb hby at_19) rfl k_) ?_
    refine own_go (T1.setTop (mkF m 22 #[.val (.int p0), .val (.int i), .val (.ref o), .unset] [(.int (17 : Int32)), (.int i)])) (fun t_ k_ => XS.bipush X1.here hx rfl (hb hby at_20) k_) ?_
    by_cases hc22_4 : i = (17 : Int32)
    ·
      refine own_go (T1.setTop (mkF m 25 #[.val (.int p0), .val (.int i), .val (.ref o), .unset] [])) (fun t_ k_ => XS.icmpNo X1.here hx rfl (hb hby at_22) rfl (teq hc22_4).2 k_) ?_
      refine own_go (T1.setTop (mkF m 26 #[.val (.int p0), .val (.int i), .val (.ref o), .unset] [(.int (1 : Int32))])) (fun t_ k_ => XS.iconst X1.here hx rfl (hb hby at_25) k_) ?_
      refine own_go (T1.setTop (mkF m 30 #[.val (.int p0), .val (.int i), .val (.ref o), .unset] [(.int (1 : Int32))])) (fun t_ k_ => XS.goto X1.here hx rfl (pc0 := 26) (pc' := 30) rfl (hb hby at_26) (by decide) (by decide) k_) ?_
      refine own_go (T1.setTop (mkF m 31 #[.val (.int p0), .val (.int i), .val (.ref o), .val (.int (1 : Int32))] [])) (fun t_ k_ => XS.istoreN X1.here hx rfl (hb hby at_30) rfl (l' := #[.val (.int p0), .val (.int i), .val (.ref o), .val (.int (1 : Int32))]) rfl k_) ?_
      refine own_go (T1.setTop (mkF m 32 #[.val (.int p0), .val (.int i), .val (.ref o), .val (.int (1 : Int32))] [(.ref o)])) (fun t_ k_ => XS.aloadN X1.here hx rfl (hb hby at_31) rfl rfl k_) ?_
      obtain ⟨cq5, kq5, q5a, q5b, q5c⟩ := isOf hZ e1 (hxo.ext O)
      obtain ⟨_, _, ⟨T5, Lu5, ku5, nu5⟩, -, X5, ⟨Lc5, hQ5, lu5, yu5, zu5⟩, st5⟩ := X1.virtualBack hx (y := (⟨"com/example/conformal/conformal/Expression$Operator", "isPrefix", "()Z"⟩ : MethodName)) (z := (⟨"com/example/conformal/conformal/Expression$Operator", "isPrefix", "()Z"⟩ : MethodName)) hown (mvT hZ (hw _ (List.mem_of_getElem? (i := 8) rfl))) (mvT hZ (hw _ (List.mem_of_getElem? (i := 9) rfl))) (notFace_of_selects (args := #[]) (mvT hZ (hw _ (List.mem_of_getElem? (i := 11) rfl)))) (mvT hZ (hw _ (List.mem_of_getElem? (i := 11) rfl))) (mvT hZ (hw _ (List.mem_of_getElem? (i := 10) rfl))) (by decide) (backOf (W := 0) (rm_ip l Z a0 hw [] (o) (a_INTEGER) (a_NOT) (a_NEGATE) (a_FALSE) (a_TRUE) (a_STRING) (a_AND) (a_LESS) (a_NAME) (a_LESS_EQUAL) (a_SUBTRACT) (a_ADD) (a_NOT_EQUAL) (a_GREATER) (a_OR) (a_GREATER_EQUAL) (a_CALL) (a_EQUAL) h0 O w) hZ (hw _ (List.mem_of_getElem? (i := 12) rfl)) (hw _ (List.mem_of_getElem? (i := 6) rfl)) (by decide) (by decide)) q5a q5c (g := (mkF m 32 #[.val (.int p0), .val (.int i), .val (.ref o), .val (.int (1 : Int32))] [(.ref o)])) rfl (by rw [hml]; rfl) (Steps.refl _) (argsL := []) (rest := []) (lenOf own_pd1 rfl) rfl (by show 2 * 0 + _ ≤ _; exact Nat.le_of_eq rfl) (hb hby at_32) (fun _ _ => ⟨rfl, e1, (by decide : 0 + 0 ≤ _), (by decide : 0 + 0 ≤ _)⟩)
      dsimp only [Pt.U, Pt.locs, Pt.cells, Pt.slots] at X5 lu5 yu5 zu5 st5 hQ5
      subst lu5 yu5 zu5
      obtain ⟨rfl, N5q, e5⟩ := hQ5
      have N5 := Fr.app N1 N5q
      refine own_go (T5.setTop (mkF m 35 #[.val (.int p0), .val (.int i), .val (.ref o), .val (.int (1 : Int32))] [(.int (if o = a_NOT then 1 else if o = a_NEGATE then 1 else 0))])) (fun t_ k_ => st5.trans k_) ?_
      refine own_go (T5.setTop (mkF m 36 #[.val (.int p0), .val (.int i), .val (.ref o), .val (.int (1 : Int32))] [(.int (1 : Int32)), (.int (if o = a_NOT then 1 else if o = a_NEGATE then 1 else 0))])) (fun t_ k_ => XS.iloadN X5.here hx rfl (hb hby at_35) rfl k_) ?_
      have q8 : ¬ o = a_NOT := Fld.ne ho F_NOT_ordinal (by simpa using hc16_2)
      have q : o = a_NEGATE := by rw [hoo, hc22_4] <;> rfl
      have hfin : (if o = a_NOT then 1 else if o = a_NEGATE then 1 else 0) = (1 : Int32) := by simp [q]
      refine own_go (T5.setTop (mkF m 39 #[.val (.int p0), .val (.int i), .val (.ref o), .val (.int (1 : Int32))] [])) (fun t_ k_ => XS.icmpNo X5.here hx rfl (hb hby at_36) rfl (teq hfin).2 k_) ?_
      refine own_go (T5.setTop (mkF m 40 #[.val (.int p0), .val (.int i), .val (.ref o), .val (.int (1 : Int32))] [(.int (1 : Int32))])) (fun t_ k_ => XS.iconst X5.here hx rfl (hb hby at_39) k_) ?_
      refine own_go (T5.setTop (mkF m 44 #[.val (.int p0), .val (.int i), .val (.ref o), .val (.int (1 : Int32))] [(.int (1 : Int32))])) (fun t_ k_ => XS.goto X5.here hx rfl (pc0 := 40) (pc' := 44) rfl (hb hby at_40) (by decide) (by decide) k_) ?_
      obtain ⟨fs, hr, hrun, hended, hW, hsame⟩ := X5.leave (v := some (.int (nar .boolean (1 : Int32)))) (fun h => by rw [Bd.returns] at h; cases h)
      refine ⟨_, _, retN X5 hx (t := .boolean) Bd.returns (by simp) (hb hby at_44) hr, hrun, hended, _, _, rfl, ?_, ⟨_, rfl⟩, hW, hsame.mono (by decide) (by decide)⟩
      show Q_law Z p0 a_INTEGER a_NOT a_NEGATE a_FALSE a_TRUE a_STRING a_AND a_LESS a_NAME a_LESS_EQUAL a_SUBTRACT a_ADD a_NOT_EQUAL a_GREATER a_OR a_GREATER_EQUAL a_CALL a_EQUAL h0 _ T5.heap _
      exact ⟨rfl, N5, trivial⟩
    ·
      refine own_go (T1.setTop (mkF m 29 #[.val (.int p0), .val (.int i), .val (.ref o), .unset] [])) (fun t_ k_ => XS.icmpYes X1.here hx rfl (pc0 := 22) (pc' := 29) rfl (hb hby at_22) rfl (feq hc22_4).2 (by decide) (by decide) k_) ?_
      refine own_go (T1.setTop (mkF m 30 #[.val (.int p0), .val (.int i), .val (.ref o), .unset] [(.int (0 : Int32))])) (fun t_ k_ => XS.iconst X1.here hx rfl (hb hby at_29) k_) ?_
      refine own_go (T1.setTop (mkF m 31 #[.val (.int p0), .val (.int i), .val (.ref o), .val (.int (0 : Int32))] [])) (fun t_ k_ => XS.istoreN X1.here hx rfl (hb hby at_30) rfl (l' := #[.val (.int p0), .val (.int i), .val (.ref o), .val (.int (0 : Int32))]) rfl k_) ?_
      refine own_go (T1.setTop (mkF m 32 #[.val (.int p0), .val (.int i), .val (.ref o), .val (.int (0 : Int32))] [(.ref o)])) (fun t_ k_ => XS.aloadN X1.here hx rfl (hb hby at_31) rfl rfl k_) ?_
      obtain ⟨cq6, kq6, q6a, q6b, q6c⟩ := isOf hZ e1 (hxo.ext O)
      obtain ⟨_, _, ⟨T6, Lu6, ku6, nu6⟩, -, X6, ⟨Lc6, hQ6, lu6, yu6, zu6⟩, st6⟩ := X1.virtualBack hx (y := (⟨"com/example/conformal/conformal/Expression$Operator", "isPrefix", "()Z"⟩ : MethodName)) (z := (⟨"com/example/conformal/conformal/Expression$Operator", "isPrefix", "()Z"⟩ : MethodName)) hown (mvT hZ (hw _ (List.mem_of_getElem? (i := 8) rfl))) (mvT hZ (hw _ (List.mem_of_getElem? (i := 9) rfl))) (notFace_of_selects (args := #[]) (mvT hZ (hw _ (List.mem_of_getElem? (i := 11) rfl)))) (mvT hZ (hw _ (List.mem_of_getElem? (i := 11) rfl))) (mvT hZ (hw _ (List.mem_of_getElem? (i := 10) rfl))) (by decide) (backOf (W := 0) (rm_ip l Z a0 hw [] (o) (a_INTEGER) (a_NOT) (a_NEGATE) (a_FALSE) (a_TRUE) (a_STRING) (a_AND) (a_LESS) (a_NAME) (a_LESS_EQUAL) (a_SUBTRACT) (a_ADD) (a_NOT_EQUAL) (a_GREATER) (a_OR) (a_GREATER_EQUAL) (a_CALL) (a_EQUAL) h0 O w) hZ (hw _ (List.mem_of_getElem? (i := 12) rfl)) (hw _ (List.mem_of_getElem? (i := 6) rfl)) (by decide) (by decide)) q6a q6c (g := (mkF m 32 #[.val (.int p0), .val (.int i), .val (.ref o), .val (.int (0 : Int32))] [(.ref o)])) rfl (by rw [hml]; rfl) (Steps.refl _) (argsL := []) (rest := []) (lenOf own_pd1 rfl) rfl (by show 2 * 0 + _ ≤ _; exact Nat.le_of_eq rfl) (hb hby at_32) (fun _ _ => ⟨rfl, e1, (by decide : 0 + 0 ≤ _), (by decide : 0 + 0 ≤ _)⟩)
      dsimp only [Pt.U, Pt.locs, Pt.cells, Pt.slots] at X6 lu6 yu6 zu6 st6 hQ6
      subst lu6 yu6 zu6
      obtain ⟨rfl, N6q, e6⟩ := hQ6
      have N6 := Fr.app N1 N6q
      refine own_go (T6.setTop (mkF m 35 #[.val (.int p0), .val (.int i), .val (.ref o), .val (.int (0 : Int32))] [(.int (if o = a_NOT then 1 else if o = a_NEGATE then 1 else 0))])) (fun t_ k_ => st6.trans k_) ?_
      refine own_go (T6.setTop (mkF m 36 #[.val (.int p0), .val (.int i), .val (.ref o), .val (.int (0 : Int32))] [(.int (0 : Int32)), (.int (if o = a_NOT then 1 else if o = a_NEGATE then 1 else 0))])) (fun t_ k_ => XS.iloadN X6.here hx rfl (hb hby at_35) rfl k_) ?_
      have q8 : ¬ o = a_NOT := Fld.ne ho F_NOT_ordinal (by simpa using hc16_2)
      have q17 : ¬ o = a_NEGATE := Fld.ne ho F_NEGATE_ordinal (by simpa using hc22_4)
      have hfin : (if o = a_NOT then 1 else if o = a_NEGATE then 1 else 0) = (0 : Int32) := by simp [q8, q17]
      refine own_go (T6.setTop (mkF m 39 #[.val (.int p0), .val (.int i), .val (.ref o), .val (.int (0 : Int32))] [])) (fun t_ k_ => XS.icmpNo X6.here hx rfl (hb hby at_36) rfl (teq hfin).2 k_) ?_
      refine own_go (T6.setTop (mkF m 40 #[.val (.int p0), .val (.int i), .val (.ref o), .val (.int (0 : Int32))] [(.int (1 : Int32))])) (fun t_ k_ => XS.iconst X6.here hx rfl (hb hby at_39) k_) ?_
      refine own_go (T6.setTop (mkF m 44 #[.val (.int p0), .val (.int i), .val (.ref o), .val (.int (0 : Int32))] [(.int (1 : Int32))])) (fun t_ k_ => XS.goto X6.here hx rfl (pc0 := 40) (pc' := 44) rfl (hb hby at_40) (by decide) (by decide) k_) ?_
      obtain ⟨fs, hr, hrun, hended, hW, hsame⟩ := X6.leave (v := some (.int (nar .boolean (1 : Int32)))) (fun h => by rw [Bd.returns] at h; cases h)
      refine ⟨_, _, retN X6 hx (t := .boolean) Bd.returns (by simp) (hb hby at_44) hr, hrun, hended, _, _, rfl, ?_, ⟨_, rfl⟩, hW, hsame.mono (by decide) (by decide)⟩
      show Q_law Z p0 a_INTEGER a_NOT a_NEGATE a_FALSE a_TRUE a_STRING a_AND a_LESS a_NAME a_LESS_EQUAL a_SUBTRACT a_ADD a_NOT_EQUAL a_GREATER a_OR a_GREATER_EQUAL a_CALL a_EQUAL h0 _ T6.heap _
      exact ⟨rfl, N6, trivial⟩
set_option maxRecDepth 65536 in
set_option maxHeartbeats 40000000 in
theorem comes_1 {Post : Tables → Env → Array Value → State → Outcome → State → Prop} (hpost : ∀ tb e args s v u, (limb_1_1.after args s (.returned v) u = true ∧ limb_1_2.after args s (.returned v) u = true ∧ True) → FrameEnd s (.returned v) u (Jvm.fieldLocs frame_1_writes args s ++ Jvm.arrayLocs frame_1_arrays args s ++ Jvm.staticLocs frame_1_statics s) 0 0 → Post tb e args s (.returned v) u) :
    ArmFor flags0 classFile x code maxLocals ret World_1 tables_1 room_1 Calls_1 rest_1 Pre_1 Post := by
  intro l hfl _ _ p e ha hc hk s m args below hf hA hF happ hP
  obtain ⟨hcalls, hrest, hpre⟩ := hP
  obtain ⟨-, -, -, hnamed, -, -, -, hat⟩ := (Spec.applies_iff hf).mp happ
  obtain ⟨hg, hn⟩ := and_e (Cond.before_iff.mp (show (Jvm.Cond.and given_1 narrow_1).before args s = true from hpre))
  obtain ⟨g1, g2⟩ := and_e hg
  obtain ⟨w0, rfl⟩ : ∃ w0 : Value, args = #[w0] := by
    have hs : args.size = 1 := by simpa [Cond.value, given_1] using g1
    obtain ⟨L⟩ := args
    match L, hs with
    | [w0], _ => exact ⟨w0, rfl⟩
  have hw := fun d (hd : d ∈ tables_1) => atoms_spec (ws := Jvm.Cond.code x code maxLocals ret :: tables_1) hat d (List.mem_cons_of_mem _ hd)
  have hfit : Fit s := fun {y c} hc i hi => by
    obtain ⟨ha, rfl⟩ := Array.getElem?_eq_some_iff.mp hc
    have q := List.all_eq_true.mp ((Array.all_eq_true_iff_forall_mem.mp hF) _ (Array.getElem_mem ha)) i (List.mem_range.mpr hi)
    simpa [Array.getElem?_eq_getElem hi] using q
  obtain ⟨i0, ei0⟩ := is_v g2
  obtain rfl : w0 = (.int i0) := Option.some.inj ei0
  obtain ⟨hn1, hn2⟩ := and_e hn
  obtain ⟨hn21, hn22⟩ := and_e hn2
  obtain ⟨hn221, hn222⟩ := and_e hn22
  obtain ⟨hn2221, hn2222⟩ := and_e hn222
  obtain ⟨hn22221, hn22222⟩ := and_e hn2222
  obtain ⟨hn222221, hn222222⟩ := and_e hn22222
  obtain ⟨hn2222221, hn2222222⟩ := and_e hn222222
  obtain ⟨hn22222221, hn22222222⟩ := and_e hn2222222
  obtain ⟨hn222222221, hn222222222⟩ := and_e hn22222222
  obtain ⟨hn2222222221, hn2222222222⟩ := and_e hn222222222
  obtain ⟨hn22222222221, hn22222222222⟩ := and_e hn2222222222
  obtain ⟨hn222222222221, hn222222222222⟩ := and_e hn22222222222
  obtain ⟨hn2222222222221, hn2222222222222⟩ := and_e hn222222222222
  obtain ⟨hn22222222222221, hn22222222222222⟩ := and_e hn2222222222222
  obtain ⟨hn222222222222221, hn222222222222222⟩ := and_e hn22222222222222
  obtain ⟨hn2222222222222221, hn2222222222222222⟩ := and_e hn222222222222222
  obtain ⟨hn22222222222222221, hn22222222222222222⟩ := and_e hn2222222222222222
  obtain ⟨hn222222222222222221, hn222222222222222222⟩ := and_e hn22222222222222222
  obtain ⟨hn2222222222222222221, hn2222222222222222222⟩ := and_e hn222222222222222222
  obtain ⟨hn22222222222222222221, hn22222222222222222222⟩ := and_e hn2222222222222222222
  obtain ⟨hn222222222222222222221, hn222222222222222222222⟩ := and_e hn22222222222222222222
  obtain ⟨hn2222222222222222222221, hn2222222222222222222222⟩ := and_e hn222222222222222222222
  obtain ⟨hn22222222222222222222221, hn22222222222222222222222⟩ := and_e hn2222222222222222222222
  obtain ⟨hn222222222222222222222221, hn222222222222222222222222⟩ := and_e hn22222222222222222222222
  obtain ⟨hn2222222222222222222222221, hn2222222222222222222222222⟩ := and_e hn222222222222222222222222
  obtain ⟨hn22222222222222222222222221, hn22222222222222222222222222⟩ := and_e hn2222222222222222222222222
  obtain ⟨hn222222222222222222222222221, hn222222222222222222222222222⟩ := and_e hn22222222222222222222222222
  obtain ⟨hn2222222222222222222222222221, hn2222222222222222222222222222⟩ := and_e hn222222222222222222222222222
  obtain ⟨hn22222222222222222222222222221, hn22222222222222222222222222222⟩ := and_e hn2222222222222222222222222222
  obtain ⟨hn222222222222222222222222222221, hn222222222222222222222222222222⟩ := and_e hn22222222222222222222222222222
  obtain ⟨hn2222222222222222222222222222221, hn2222222222222222222222222222222⟩ := and_e hn222222222222222222222222222222
  obtain ⟨hn22222222222222222222222222222221, hn22222222222222222222222222222222⟩ := and_e hn2222222222222222222222222222222
  obtain ⟨hn222222222222222222222222222222221, hn222222222222222222222222222222222⟩ := and_e hn22222222222222222222222222222222
  obtain ⟨hn2222222222222222222222222222222221, hn2222222222222222222222222222222222⟩ := and_e hn222222222222222222222222222222222
  obtain ⟨hn22222222222222222222222222222222221, hn22222222222222222222222222222222222⟩ := and_e hn2222222222222222222222222222222222
  obtain ⟨a_INTEGER, ev_INTEGER⟩ := exa_v hn1
  have S_INTEGER : Sta s s.heap "com/example/conformal/conformal/Expression$Operator" "INTEGER" "Lcom/example/conformal/conformal/Expression$Operator;" (.ref a_INTEGER) := Sta.start ev_INTEGER (Or.inr ⟨(hw _ (List.mem_of_getElem? (i := 6) rfl)), (hw _ (List.mem_of_getElem? (i := 7) rfl))⟩)
  have X_INTEGER : Exa s s.heap a_INTEGER "com/example/conformal/conformal/Expression$Operator" := Exa.start ev_INTEGER hn1
  obtain ⟨a_NOT, ev_NOT⟩ := exa_v hn21
  have S_NOT : Sta s s.heap "com/example/conformal/conformal/Expression$Operator" "NOT" "Lcom/example/conformal/conformal/Expression$Operator;" (.ref a_NOT) := Sta.start ev_NOT (Or.inr ⟨(hw _ (List.mem_of_getElem? (i := 6) rfl)), (hw _ (List.mem_of_getElem? (i := 14) rfl))⟩)
  have X_NOT : Exa s s.heap a_NOT "com/example/conformal/conformal/Expression$Operator" := Exa.start ev_NOT hn21
  obtain ⟨a_NEGATE, ev_NEGATE⟩ := exa_v hn22221
  have S_NEGATE : Sta s s.heap "com/example/conformal/conformal/Expression$Operator" "NEGATE" "Lcom/example/conformal/conformal/Expression$Operator;" (.ref a_NEGATE) := Sta.start ev_NEGATE (Or.inr ⟨(hw _ (List.mem_of_getElem? (i := 6) rfl)), (hw _ (List.mem_of_getElem? (i := 16) rfl))⟩)
  have X_NEGATE : Exa s s.heap a_NEGATE "com/example/conformal/conformal/Expression$Operator" := Exa.start ev_NEGATE hn22221
  obtain ⟨a_FALSE, ev_FALSE⟩ := exa_v hn2222221
  have S_FALSE : Sta s s.heap "com/example/conformal/conformal/Expression$Operator" "FALSE" "Lcom/example/conformal/conformal/Expression$Operator;" (.ref a_FALSE) := Sta.start ev_FALSE (Or.inr ⟨(hw _ (List.mem_of_getElem? (i := 6) rfl)), (hw _ (List.mem_of_getElem? (i := 18) rfl))⟩)
  have X_FALSE : Exa s s.heap a_FALSE "com/example/conformal/conformal/Expression$Operator" := Exa.start ev_FALSE hn2222221
  obtain ⟨a_TRUE, ev_TRUE⟩ := exa_v hn222222221
  have S_TRUE : Sta s s.heap "com/example/conformal/conformal/Expression$Operator" "TRUE" "Lcom/example/conformal/conformal/Expression$Operator;" (.ref a_TRUE) := Sta.start ev_TRUE (Or.inr ⟨(hw _ (List.mem_of_getElem? (i := 6) rfl)), (hw _ (List.mem_of_getElem? (i := 20) rfl))⟩)
  have X_TRUE : Exa s s.heap a_TRUE "com/example/conformal/conformal/Expression$Operator" := Exa.start ev_TRUE hn222222221
  obtain ⟨a_STRING, ev_STRING⟩ := exa_v hn22222222221
  have S_STRING : Sta s s.heap "com/example/conformal/conformal/Expression$Operator" "STRING" "Lcom/example/conformal/conformal/Expression$Operator;" (.ref a_STRING) := Sta.start ev_STRING (Or.inr ⟨(hw _ (List.mem_of_getElem? (i := 6) rfl)), (hw _ (List.mem_of_getElem? (i := 22) rfl))⟩)
  have X_STRING : Exa s s.heap a_STRING "com/example/conformal/conformal/Expression$Operator" := Exa.start ev_STRING hn22222222221
  obtain ⟨a_AND, ev_AND⟩ := exa_v hn2222222222221
  have S_AND : Sta s s.heap "com/example/conformal/conformal/Expression$Operator" "AND" "Lcom/example/conformal/conformal/Expression$Operator;" (.ref a_AND) := Sta.start ev_AND (Or.inr ⟨(hw _ (List.mem_of_getElem? (i := 6) rfl)), (hw _ (List.mem_of_getElem? (i := 24) rfl))⟩)
  have X_AND : Exa s s.heap a_AND "com/example/conformal/conformal/Expression$Operator" := Exa.start ev_AND hn2222222222221
  obtain ⟨a_LESS, ev_LESS⟩ := exa_v hn222222222222221
  have S_LESS : Sta s s.heap "com/example/conformal/conformal/Expression$Operator" "LESS" "Lcom/example/conformal/conformal/Expression$Operator;" (.ref a_LESS) := Sta.start ev_LESS (Or.inr ⟨(hw _ (List.mem_of_getElem? (i := 6) rfl)), (hw _ (List.mem_of_getElem? (i := 26) rfl))⟩)
  have X_LESS : Exa s s.heap a_LESS "com/example/conformal/conformal/Expression$Operator" := Exa.start ev_LESS hn222222222222221
  obtain ⟨a_NAME, ev_NAME⟩ := exa_v hn22222222222222221
  have S_NAME : Sta s s.heap "com/example/conformal/conformal/Expression$Operator" "NAME" "Lcom/example/conformal/conformal/Expression$Operator;" (.ref a_NAME) := Sta.start ev_NAME (Or.inr ⟨(hw _ (List.mem_of_getElem? (i := 6) rfl)), (hw _ (List.mem_of_getElem? (i := 28) rfl))⟩)
  have X_NAME : Exa s s.heap a_NAME "com/example/conformal/conformal/Expression$Operator" := Exa.start ev_NAME hn22222222222222221
  obtain ⟨a_LESS_EQUAL, ev_LESS_EQUAL⟩ := exa_v hn2222222222222222221
  have S_LESS_EQUAL : Sta s s.heap "com/example/conformal/conformal/Expression$Operator" "LESS_EQUAL" "Lcom/example/conformal/conformal/Expression$Operator;" (.ref a_LESS_EQUAL) := Sta.start ev_LESS_EQUAL (Or.inr ⟨(hw _ (List.mem_of_getElem? (i := 6) rfl)), (hw _ (List.mem_of_getElem? (i := 31) rfl))⟩)
  have X_LESS_EQUAL : Exa s s.heap a_LESS_EQUAL "com/example/conformal/conformal/Expression$Operator" := Exa.start ev_LESS_EQUAL hn2222222222222222221
  obtain ⟨a_SUBTRACT, ev_SUBTRACT⟩ := exa_v hn222222222222222222221
  have S_SUBTRACT : Sta s s.heap "com/example/conformal/conformal/Expression$Operator" "SUBTRACT" "Lcom/example/conformal/conformal/Expression$Operator;" (.ref a_SUBTRACT) := Sta.start ev_SUBTRACT (Or.inr ⟨(hw _ (List.mem_of_getElem? (i := 6) rfl)), (hw _ (List.mem_of_getElem? (i := 33) rfl))⟩)
  have X_SUBTRACT : Exa s s.heap a_SUBTRACT "com/example/conformal/conformal/Expression$Operator" := Exa.start ev_SUBTRACT hn222222222222222222221
  obtain ⟨a_ADD, ev_ADD⟩ := exa_v hn22222222222222222222221
  have S_ADD : Sta s s.heap "com/example/conformal/conformal/Expression$Operator" "ADD" "Lcom/example/conformal/conformal/Expression$Operator;" (.ref a_ADD) := Sta.start ev_ADD (Or.inr ⟨(hw _ (List.mem_of_getElem? (i := 6) rfl)), (hw _ (List.mem_of_getElem? (i := 35) rfl))⟩)
  have X_ADD : Exa s s.heap a_ADD "com/example/conformal/conformal/Expression$Operator" := Exa.start ev_ADD hn22222222222222222222221
  obtain ⟨a_NOT_EQUAL, ev_NOT_EQUAL⟩ := exa_v hn2222222222222222222222221
  have S_NOT_EQUAL : Sta s s.heap "com/example/conformal/conformal/Expression$Operator" "NOT_EQUAL" "Lcom/example/conformal/conformal/Expression$Operator;" (.ref a_NOT_EQUAL) := Sta.start ev_NOT_EQUAL (Or.inr ⟨(hw _ (List.mem_of_getElem? (i := 6) rfl)), (hw _ (List.mem_of_getElem? (i := 37) rfl))⟩)
  have X_NOT_EQUAL : Exa s s.heap a_NOT_EQUAL "com/example/conformal/conformal/Expression$Operator" := Exa.start ev_NOT_EQUAL hn2222222222222222222222221
  obtain ⟨a_GREATER, ev_GREATER⟩ := exa_v hn222222222222222222222222221
  have S_GREATER : Sta s s.heap "com/example/conformal/conformal/Expression$Operator" "GREATER" "Lcom/example/conformal/conformal/Expression$Operator;" (.ref a_GREATER) := Sta.start ev_GREATER (Or.inr ⟨(hw _ (List.mem_of_getElem? (i := 6) rfl)), (hw _ (List.mem_of_getElem? (i := 39) rfl))⟩)
  have X_GREATER : Exa s s.heap a_GREATER "com/example/conformal/conformal/Expression$Operator" := Exa.start ev_GREATER hn222222222222222222222222221
  obtain ⟨a_OR, ev_OR⟩ := exa_v hn22222222222222222222222222221
  have S_OR : Sta s s.heap "com/example/conformal/conformal/Expression$Operator" "OR" "Lcom/example/conformal/conformal/Expression$Operator;" (.ref a_OR) := Sta.start ev_OR (Or.inr ⟨(hw _ (List.mem_of_getElem? (i := 6) rfl)), (hw _ (List.mem_of_getElem? (i := 41) rfl))⟩)
  have X_OR : Exa s s.heap a_OR "com/example/conformal/conformal/Expression$Operator" := Exa.start ev_OR hn22222222222222222222222222221
  obtain ⟨a_GREATER_EQUAL, ev_GREATER_EQUAL⟩ := exa_v hn2222222222222222222222222222221
  have S_GREATER_EQUAL : Sta s s.heap "com/example/conformal/conformal/Expression$Operator" "GREATER_EQUAL" "Lcom/example/conformal/conformal/Expression$Operator;" (.ref a_GREATER_EQUAL) := Sta.start ev_GREATER_EQUAL (Or.inr ⟨(hw _ (List.mem_of_getElem? (i := 6) rfl)), (hw _ (List.mem_of_getElem? (i := 44) rfl))⟩)
  have X_GREATER_EQUAL : Exa s s.heap a_GREATER_EQUAL "com/example/conformal/conformal/Expression$Operator" := Exa.start ev_GREATER_EQUAL hn2222222222222222222222222222221
  obtain ⟨a_CALL, ev_CALL⟩ := exa_v hn222222222222222222222222222222221
  have S_CALL : Sta s s.heap "com/example/conformal/conformal/Expression$Operator" "CALL" "Lcom/example/conformal/conformal/Expression$Operator;" (.ref a_CALL) := Sta.start ev_CALL (Or.inr ⟨(hw _ (List.mem_of_getElem? (i := 6) rfl)), (hw _ (List.mem_of_getElem? (i := 46) rfl))⟩)
  have X_CALL : Exa s s.heap a_CALL "com/example/conformal/conformal/Expression$Operator" := Exa.start ev_CALL hn222222222222222222222222222222221
  obtain ⟨a_EQUAL, ev_EQUAL⟩ := exa_v hn22222222222222222222222222222222221
  have S_EQUAL : Sta s s.heap "com/example/conformal/conformal/Expression$Operator" "EQUAL" "Lcom/example/conformal/conformal/Expression$Operator;" (.ref a_EQUAL) := Sta.start ev_EQUAL (Or.inr ⟨(hw _ (List.mem_of_getElem? (i := 6) rfl)), (hw _ (List.mem_of_getElem? (i := 48) rfl))⟩)
  have X_EQUAL : Exa s s.heap a_EQUAL "com/example/conformal/conformal/Expression$Operator" := Exa.start ev_EQUAL hn22222222222222222222222222222222221
  have F_INTEGER_ordinal : Fld s s.heap a_INTEGER "java/lang/Enum" "ordinal" "I" (.int (0 : Int32)) := own_fldI hn221 ev_INTEGER
  have F_NOT_ordinal : Fld s s.heap a_NOT "java/lang/Enum" "ordinal" "I" (.int (8 : Int32)) := own_fldI hn2221 ev_NOT
  have F_NEGATE_ordinal : Fld s s.heap a_NEGATE "java/lang/Enum" "ordinal" "I" (.int (17 : Int32)) := own_fldI hn222221 ev_NEGATE
  have F_FALSE_ordinal : Fld s s.heap a_FALSE "java/lang/Enum" "ordinal" "I" (.int (3 : Int32)) := own_fldI hn22222221 ev_FALSE
  have F_TRUE_ordinal : Fld s s.heap a_TRUE "java/lang/Enum" "ordinal" "I" (.int (2 : Int32)) := own_fldI hn2222222221 ev_TRUE
  have F_STRING_ordinal : Fld s s.heap a_STRING "java/lang/Enum" "ordinal" "I" (.int (1 : Int32)) := own_fldI hn222222222221 ev_STRING
  have F_AND_ordinal : Fld s s.heap a_AND "java/lang/Enum" "ordinal" "I" (.int (7 : Int32)) := own_fldI hn22222222222221 ev_AND
  have F_LESS_ordinal : Fld s s.heap a_LESS "java/lang/Enum" "ordinal" "I" (.int (11 : Int32)) := own_fldI hn2222222222222221 ev_LESS
  have F_NAME_ordinal : Fld s s.heap a_NAME "java/lang/Enum" "ordinal" "I" (.int (4 : Int32)) := own_fldI hn222222222222222221 ev_NAME
  have F_LESS_EQUAL_ordinal : Fld s s.heap a_LESS_EQUAL "java/lang/Enum" "ordinal" "I" (.int (12 : Int32)) := own_fldI hn22222222222222222221 ev_LESS_EQUAL
  have F_SUBTRACT_ordinal : Fld s s.heap a_SUBTRACT "java/lang/Enum" "ordinal" "I" (.int (16 : Int32)) := own_fldI hn2222222222222222222221 ev_SUBTRACT
  have F_ADD_ordinal : Fld s s.heap a_ADD "java/lang/Enum" "ordinal" "I" (.int (15 : Int32)) := own_fldI hn222222222222222222222221 ev_ADD
  have F_NOT_EQUAL_ordinal : Fld s s.heap a_NOT_EQUAL "java/lang/Enum" "ordinal" "I" (.int (10 : Int32)) := own_fldI hn22222222222222222222222221 ev_NOT_EQUAL
  have F_GREATER_ordinal : Fld s s.heap a_GREATER "java/lang/Enum" "ordinal" "I" (.int (13 : Int32)) := own_fldI hn2222222222222222222222222221 ev_GREATER
  have F_OR_ordinal : Fld s s.heap a_OR "java/lang/Enum" "ordinal" "I" (.int (6 : Int32)) := own_fldI hn222222222222222222222222222221 ev_OR
  have F_GREATER_EQUAL_ordinal : Fld s s.heap a_GREATER_EQUAL "java/lang/Enum" "ordinal" "I" (.int (14 : Int32)) := own_fldI hn22222222222222222222222222222221 ev_GREATER_EQUAL
  have F_CALL_ordinal : Fld s s.heap a_CALL "java/lang/Enum" "ordinal" "I" (.int (5 : Int32)) := own_fldI hn2222222222222222222222222222222221 ev_CALL
  have F_EQUAL_ordinal : Fld s s.heap a_EQUAL "java/lang/Enum" "ordinal" "I" (.int (9 : Int32)) := own_fldI hn22222222222222222222222222222222222 ev_EQUAL
  obtain ⟨n, o, h1, h2, h3, _, L, rfl, ⟨rfl, N, -⟩, hq⟩ := rm_law l s _ hw tables_1 i0 a_INTEGER a_NOT a_NEGATE a_FALSE a_TRUE a_STRING a_AND a_LESS a_NAME a_LESS_EQUAL a_SUBTRACT a_ADD a_NOT_EQUAL a_GREATER a_OR a_GREATER_EQUAL a_CALL a_EQUAL s.heap ⟨Nat.le_refl _, fun _ _ q => q⟩ ⟨S_INTEGER, X_INTEGER, S_NOT, X_NOT, S_NEGATE, X_NEGATE, S_FALSE, X_FALSE, S_TRUE, X_TRUE, S_STRING, X_STRING, S_AND, X_AND, S_LESS, X_LESS, S_NAME, X_NAME, S_LESS_EQUAL, X_LESS_EQUAL, S_SUBTRACT, X_SUBTRACT, S_ADD, X_ADD, S_NOT_EQUAL, X_NOT_EQUAL, S_GREATER, X_GREATER, S_OR, X_OR, S_GREATER_EQUAL, X_GREATER_EQUAL, S_CALL, X_CALL, S_EQUAL, X_EQUAL, F_INTEGER_ordinal, F_NOT_ordinal, F_NEGATE_ordinal, F_FALSE_ordinal, F_TRUE_ordinal, F_STRING_ordinal, F_AND_ordinal, F_LESS_ordinal, F_NAME_ordinal, F_LESS_EQUAL_ordinal, F_SUBTRACT_ordinal, F_ADD_ordinal, F_NOT_EQUAL_ordinal, F_GREATER_ordinal, F_OR_ordinal, F_GREATER_EQUAL_ordinal, F_CALL_ordinal, F_EQUAL_ordinal⟩  p e ha hc hk s m _ below hf ((Spec.applies_iff_loose hf).mp happ).1 ⟨rfl, State.Warmed39.refl s, rfl⟩ trivial
  refine ⟨n, _, h1, h2, h3, hpost _ _ _ _ _ _ ⟨Cond.after_iff.mpr rfl, Cond.after_iff.mpr (eq_i res_at (Term.int_eval (1)) rfl), trivial⟩ ⟨hq.1, hq.2.1, (hq.2.2.sift fun y hy => Or.inr (N y hy)).mono (by decide) (by decide)⟩⟩
theorem main_1_1 : Claimed_1_1 := comes_1 fun _ _ _ _ _ _ h hF => ⟨h.1, hF⟩
theorem main_1_2 : Claimed_1_2 := comes_1 fun _ _ _ _ _ _ h hF => ⟨h.2.1, hF⟩
end Jvm.Pilot.@@N@@
namespace Jvm.Pilot.@@N@@
open Jvm Jvm.ClassFile Sem Op Lib Jvm.Free Jvm.Stand Jvm.Pilot.@@N@@.Jvm.D
/-! MADE BY PROGRAM (witnessworld.py) out of the Statement's table words and the real class files: 12 classes; the members and pool entries that the words name. The judged class is class 1, her method 2. -/
namespace start1
open Jvm.ClassFile
def u (s : String) : CpInfo := .utf8 (stringToUtf16 s)
/-- a pool by its gaps: so many unusable entries, then the entry; so many at the end -/
def gap : Nat → List CpInfo → List CpInfo
  | 0, r => r
  | n + 1, r => .unusable :: gap n r
def poolList (es : List (Nat × CpInfo)) (last : Nat) : List CpInfo := es.foldr (fun e r => gap e.1 (e.2 :: r)) (gap last [])
def pool (es : List (Nat × CpInfo)) (last : Nat) : Array CpInfo := ⟨poolList es last⟩
def fileOf (pool : Array CpInfo) (this : Nat) (attrs : Array Attribute := #[]) (ms : Array MethodInfo := #[]) (fl : Nat := 33) (sup : Nat := 0) (ifs : Array Nat := #[]) (fds : Array FieldInfo := #[]) : ClassFile where
  minorVersion := 0
  majorVersion := 65
  constantPool := pool
  accessFlags := fl
  thisClass := this
  superClass := sup
  interfaces := ifs
  fields := fds
  methods := ms
  attributes := attrs
def plain (name : String) (sup : Option ClassId) : Class where
  name := name
  kind := .ordinary
  loader := none
  accessFlags := 33
  super := sup
  interfaces := #[]
  cf := none
  fields := #[]
  methods := #[]
  instanceTypes := #[]
  staticTypes := #[]
  resolved := #[]
  callSites := []
  init := .initialized
  statics := none
  mirror := none

def pool0 : Array CpInfo := pool [(5, u "<init>"), (0, u "()V"), (1, .class_ 10), (1, u "java/lang/Object")] 113

def k0m0 : Method := { name := "<init>", desc := "()V", sig := { parameters := [], returnType := none }, accessFlags := 1, code := none }
/-- java/lang/Object -/
def k0 : Class := { plain "java/lang/Object" none with
  accessFlags := 33
  interfaces := #[]
  cf := some (fileOf pool0 8 #[] #[{ accessFlags := 1, nameIndex := 5, descriptorIndex := 6, attributes := #[] }] 33 0 #[] #[])
  fields := #[]
  methods := #[k0m0]
  instanceTypes := #[]
  staticTypes := #[]
  resolved := Array.replicate 124 none
  statics := none }

def pool1 : Array CpInfo := pool [(2, .class_ 4), (1, u "java/lang/Object"), (0, u "<init>"), (0, u "()V"), (0, .fieldref 8 9), (0, .class_ 10), (0, .nameAndType 11 12), (0, u "com/example/conformal/conformal/Expression$Operator"), (0, u "INTEGER"), (0, u "Lcom/example/conformal/conformal/Expression$Operator;"), (0, .fieldref 8 14), (0, .nameAndType 15 12), (0, u "STRING"), (0, .fieldref 8 17), (0, .nameAndType 18 12), (0, u "TRUE"), (0, .fieldref 8 20), (0, .nameAndType 21 12), (0, u "FALSE"), (0, .fieldref 8 23), (0, .nameAndType 24 12), (0, u "NAME"), (0, .fieldref 8 26), (0, .nameAndType 27 12), (0, u "CALL"), (0, .fieldref 8 29), (0, .nameAndType 30 12), (0, u "OR"), (0, .fieldref 8 32), (0, .nameAndType 33 12), (0, u "AND"), (0, .fieldref 8 35), (0, .nameAndType 36 12), (0, u "NOT"), (0, .fieldref 8 38), (0, .nameAndType 39 12), (0, u "EQUAL"), (0, .fieldref 8 41), (0, .nameAndType 42 12), (0, u "NOT_EQUAL"), (0, .fieldref 8 44), (0, .nameAndType 45 12), (0, u "LESS"), (0, .fieldref 8 47), (0, .nameAndType 48 12), (0, u "LESS_EQUAL"), (0, .fieldref 8 50), (0, .nameAndType 51 12), (0, u "GREATER"), (0, .fieldref 8 53), (0, .nameAndType 54 12), (0, u "GREATER_EQUAL"), (0, .fieldref 8 56), (0, .nameAndType 57 12), (0, u "ADD"), (0, .fieldref 8 59), (0, .nameAndType 60 12), (0, u "SUBTRACT"), (0, .fieldref 8 62), (0, .nameAndType 63 12), (0, u "NEGATE"), (0, .integer 2147483647), (0, .methodref 66 67), (0, .class_ 68), (0, .nameAndType 69 70), (0, u "com/example/conformal/conformal/OperatorIsPrefixPinLaw"), (0, u "pick"), (0, u "(I)Lcom/example/conformal/conformal/Expression$Operator;"), (0, .methodref 8 72), (0, .nameAndType 73 74), (0, u "isPrefix"), (0, u "()Z"), (3, u "law"), (0, u "(I)Z")] 6

def k1m0 : Method := { name := "<init>", desc := "()V", sig := { parameters := [], returnType := none }, accessFlags := 2, code := none }
def k1c1 : Code := { maxStack := 2, maxLocals := 1, code := method_2_code, exceptionTable := #[], attributes := #[] }
def k1m1 : Method := { name := "pick", desc := "(I)Lcom/example/conformal/conformal/Expression$Operator;", sig := { parameters := [.int], returnType := some (.object "com/example/conformal/conformal/Expression$Operator") }, accessFlags := 10, code := some k1c1 }
def k1c2 : Code := { maxStack := 2, maxLocals := 4, code := code, exceptionTable := #[], attributes := #[] }
def k1m2 : Method := { name := "law", desc := "(I)Z", sig := { parameters := [.int], returnType := some .boolean }, accessFlags := 9, code := some k1c2 }
/-- com/example/conformal/conformal/OperatorIsPrefixPinLaw -/
def k1 : Class := { plain "com/example/conformal/conformal/OperatorIsPrefixPinLaw" (some 0) with
  accessFlags := 49
  interfaces := #[]
  cf := some (fileOf pool1 66 #[] #[{ accessFlags := 2, nameIndex := 5, descriptorIndex := 6, attributes := #[] }, { accessFlags := 10, nameIndex := 69, descriptorIndex := 70, attributes := #[] }, { accessFlags := 9, nameIndex := 78, descriptorIndex := 79, attributes := #[] }] 49 2 #[] #[])
  fields := #[]
  methods := #[k1m0, k1m1, k1m2]
  instanceTypes := #[]
  staticTypes := #[]
  resolved := Array.replicate 86 none
  statics := none }

def pool2 : Array CpInfo := pool [(1, .class_ 2), (0, u "java/lang/constant/Constable"), (0, .class_ 4), (0, u "java/lang/Object")] 6

/-- java/lang/constant/Constable -/
def k2 : Class := { plain "java/lang/constant/Constable" (some 0) with
  accessFlags := 1537
  interfaces := #[]
  cf := some (fileOf pool2 1 #[] #[] 1537 3 #[] #[])
  fields := #[]
  methods := #[]
  instanceTypes := #[]
  staticTypes := #[]
  resolved := Array.replicate 11 none
  statics := none }

def pool3 : Array CpInfo := pool [(1, .class_ 2), (0, u "java/lang/Comparable"), (0, .class_ 4), (0, u "java/lang/Object")] 7

/-- java/lang/Comparable -/
def k3 : Class := { plain "java/lang/Comparable" (some 0) with
  accessFlags := 1537
  interfaces := #[]
  cf := some (fileOf pool3 1 #[] #[] 1537 3 #[] #[])
  fields := #[]
  methods := #[]
  instanceTypes := #[]
  staticTypes := #[]
  resolved := Array.replicate 12 none
  statics := none }

def pool4 : Array CpInfo := pool [(1, .class_ 2), (0, u "java/io/Serializable"), (0, .class_ 4), (0, u "java/lang/Object")] 2

/-- java/io/Serializable -/
def k4 : Class := { plain "java/io/Serializable" (some 0) with
  accessFlags := 1537
  interfaces := #[]
  cf := some (fileOf pool4 1 #[] #[] 1537 3 #[] #[])
  fields := #[]
  methods := #[]
  instanceTypes := #[]
  staticTypes := #[]
  resolved := Array.replicate 7 none
  statics := none }

def pool5 : Array CpInfo := pool [(2, .class_ 4), (1, u "java/lang/Enum"), (0, u "name"), (0, u "Ljava/lang/String;"), (2, u "ordinal"), (0, u "I"), (1, .class_ 14), (1, u "java/lang/Object"), (4, u "hash"), (86, .class_ 108), (1, u "java/lang/Enum$EnumDesc"), (2, .class_ 112), (0, u "java/lang/constant/Constable"), (0, .class_ 114), (0, u "java/lang/Comparable"), (0, .class_ 116), (0, u "java/io/Serializable")] 87

/-- java/lang/Enum -/
def k5 : Class := { plain "java/lang/Enum" (some 0) with
  accessFlags := 1057
  interfaces := #[2, 3, 4]
  cf := some (fileOf pool5 2 #[.nestMembers #[106]] #[] 1057 12 #[111, 113, 115] #[{ accessFlags := 18, nameIndex := 5, descriptorIndex := 6, attributes := #[] }, { accessFlags := 18, nameIndex := 9, descriptorIndex := 10, attributes := #[] }, { accessFlags := 2, nameIndex := 19, descriptorIndex := 10, attributes := #[] }])
  fields := #[{ name := "name", type := (.object "java/lang/String"), accessFlags := 18, slot := 0, constantValue := 0 }, { name := "ordinal", type := .int, accessFlags := 18, slot := 1, constantValue := 0 }, { name := "hash", type := .int, accessFlags := 2, slot := 2, constantValue := 0 }]
  methods := #[]
  instanceTypes := #[(.object "java/lang/String"), .int, .int]
  staticTypes := #[]
  resolved := Array.replicate 204 none
  statics := none }

def pool6 : Array CpInfo := pool [(1, .class_ 2), (0, u "com/example/conformal/conformal/Expression$Operator"), (2, u "INTEGER"), (0, u "Lcom/example/conformal/conformal/Expression$Operator;"), (2, u "STRING"), (2, u "TRUE"), (2, u "FALSE"), (2, u "NAME"), (2, u "CALL"), (2, u "OR"), (2, u "AND"), (0, .fieldref 1 29), (0, .nameAndType 30 6), (0, u "NOT"), (2, u "EQUAL"), (2, u "NOT_EQUAL"), (2, u "LESS"), (2, u "LESS_EQUAL"), (2, u "GREATER"), (2, u "GREATER_EQUAL"), (2, u "ADD"), (2, u "SUBTRACT"), (0, .fieldref 1 56), (0, .nameAndType 57 6), (0, u "NEGATE"), (2, u "$VALUES"), (0, u "[Lcom/example/conformal/conformal/Expression$Operator;"), (6, .class_ 70), (1, u "java/lang/Enum"), (11, u "symbol"), (0, u "Ljava/lang/String;"), (2, u "precedence"), (0, u "I"), (2, u "operand"), (0, u "Lcom/example/conformal/conformal/Expression$Scalar;"), (2, u "result"), (41, u "isPrefix"), (0, u "()Z"), (76, .class_ 215), (0, u "com/example/conformal/conformal/Expression")] 24

def k6c0 : Code := { maxStack := 2, maxLocals := 1, code := prog_16_method_6_code, exceptionTable := #[], attributes := #[] }
def k6m0 : Method := { name := "isPrefix", desc := "()Z", sig := { parameters := [], returnType := some .boolean }, accessFlags := 0, code := some k6c0 }
/-- com/example/conformal/conformal/Expression$Operator -/
def k6 : Class := { plain "com/example/conformal/conformal/Expression$Operator" (some 5) with
  accessFlags := 16432
  interfaces := #[]
  cf := some (fileOf pool6 1 #[.nestHost 214] #[{ accessFlags := 0, nameIndex := 136, descriptorIndex := 137, attributes := #[] }] 16432 68 #[] #[{ accessFlags := 16409, nameIndex := 5, descriptorIndex := 6, attributes := #[] }, { accessFlags := 16409, nameIndex := 9, descriptorIndex := 6, attributes := #[] }, { accessFlags := 16409, nameIndex := 12, descriptorIndex := 6, attributes := #[] }, { accessFlags := 16409, nameIndex := 15, descriptorIndex := 6, attributes := #[] }, { accessFlags := 16409, nameIndex := 18, descriptorIndex := 6, attributes := #[] }, { accessFlags := 16409, nameIndex := 21, descriptorIndex := 6, attributes := #[] }, { accessFlags := 16409, nameIndex := 24, descriptorIndex := 6, attributes := #[] }, { accessFlags := 16409, nameIndex := 27, descriptorIndex := 6, attributes := #[] }, { accessFlags := 16409, nameIndex := 30, descriptorIndex := 6, attributes := #[] }, { accessFlags := 16409, nameIndex := 33, descriptorIndex := 6, attributes := #[] }, { accessFlags := 16409, nameIndex := 36, descriptorIndex := 6, attributes := #[] }, { accessFlags := 16409, nameIndex := 39, descriptorIndex := 6, attributes := #[] }, { accessFlags := 16409, nameIndex := 42, descriptorIndex := 6, attributes := #[] }, { accessFlags := 16409, nameIndex := 45, descriptorIndex := 6, attributes := #[] }, { accessFlags := 16409, nameIndex := 48, descriptorIndex := 6, attributes := #[] }, { accessFlags := 16409, nameIndex := 51, descriptorIndex := 6, attributes := #[] }, { accessFlags := 16409, nameIndex := 54, descriptorIndex := 6, attributes := #[] }, { accessFlags := 16409, nameIndex := 57, descriptorIndex := 6, attributes := #[] }, { accessFlags := 18, nameIndex := 82, descriptorIndex := 83, attributes := #[] }, { accessFlags := 18, nameIndex := 86, descriptorIndex := 87, attributes := #[] }, { accessFlags := 18, nameIndex := 90, descriptorIndex := 91, attributes := #[] }, { accessFlags := 18, nameIndex := 94, descriptorIndex := 91, attributes := #[] }, { accessFlags := 4122, nameIndex := 60, descriptorIndex := 61, attributes := #[] }])
  fields := #[{ name := "INTEGER", type := (.object "com/example/conformal/conformal/Expression$Operator"), accessFlags := 16409, slot := 0, constantValue := 0 }, { name := "STRING", type := (.object "com/example/conformal/conformal/Expression$Operator"), accessFlags := 16409, slot := 1, constantValue := 0 }, { name := "TRUE", type := (.object "com/example/conformal/conformal/Expression$Operator"), accessFlags := 16409, slot := 2, constantValue := 0 }, { name := "FALSE", type := (.object "com/example/conformal/conformal/Expression$Operator"), accessFlags := 16409, slot := 3, constantValue := 0 }, { name := "NAME", type := (.object "com/example/conformal/conformal/Expression$Operator"), accessFlags := 16409, slot := 4, constantValue := 0 }, { name := "CALL", type := (.object "com/example/conformal/conformal/Expression$Operator"), accessFlags := 16409, slot := 5, constantValue := 0 }, { name := "OR", type := (.object "com/example/conformal/conformal/Expression$Operator"), accessFlags := 16409, slot := 6, constantValue := 0 }, { name := "AND", type := (.object "com/example/conformal/conformal/Expression$Operator"), accessFlags := 16409, slot := 7, constantValue := 0 }, { name := "NOT", type := (.object "com/example/conformal/conformal/Expression$Operator"), accessFlags := 16409, slot := 8, constantValue := 0 }, { name := "EQUAL", type := (.object "com/example/conformal/conformal/Expression$Operator"), accessFlags := 16409, slot := 9, constantValue := 0 }, { name := "NOT_EQUAL", type := (.object "com/example/conformal/conformal/Expression$Operator"), accessFlags := 16409, slot := 10, constantValue := 0 }, { name := "LESS", type := (.object "com/example/conformal/conformal/Expression$Operator"), accessFlags := 16409, slot := 11, constantValue := 0 }, { name := "LESS_EQUAL", type := (.object "com/example/conformal/conformal/Expression$Operator"), accessFlags := 16409, slot := 12, constantValue := 0 }, { name := "GREATER", type := (.object "com/example/conformal/conformal/Expression$Operator"), accessFlags := 16409, slot := 13, constantValue := 0 }, { name := "GREATER_EQUAL", type := (.object "com/example/conformal/conformal/Expression$Operator"), accessFlags := 16409, slot := 14, constantValue := 0 }, { name := "ADD", type := (.object "com/example/conformal/conformal/Expression$Operator"), accessFlags := 16409, slot := 15, constantValue := 0 }, { name := "SUBTRACT", type := (.object "com/example/conformal/conformal/Expression$Operator"), accessFlags := 16409, slot := 16, constantValue := 0 }, { name := "NEGATE", type := (.object "com/example/conformal/conformal/Expression$Operator"), accessFlags := 16409, slot := 17, constantValue := 0 }, { name := "symbol", type := (.object "java/lang/String"), accessFlags := 18, slot := 3, constantValue := 0 }, { name := "precedence", type := .int, accessFlags := 18, slot := 4, constantValue := 0 }, { name := "operand", type := (.object "com/example/conformal/conformal/Expression$Scalar"), accessFlags := 18, slot := 5, constantValue := 0 }, { name := "result", type := (.object "com/example/conformal/conformal/Expression$Scalar"), accessFlags := 18, slot := 6, constantValue := 0 }, { name := "$VALUES", type := (.array (.object "com/example/conformal/conformal/Expression$Operator")), accessFlags := 4122, slot := 18, constantValue := 0 }]
  methods := #[k6m0]
  instanceTypes := #[(.object "java/lang/String"), .int, .int, (.object "java/lang/String"), .int, (.object "com/example/conformal/conformal/Expression$Scalar"), (.object "com/example/conformal/conformal/Expression$Scalar")]
  staticTypes := #[(.object "com/example/conformal/conformal/Expression$Operator"), (.object "com/example/conformal/conformal/Expression$Operator"), (.object "com/example/conformal/conformal/Expression$Operator"), (.object "com/example/conformal/conformal/Expression$Operator"), (.object "com/example/conformal/conformal/Expression$Operator"), (.object "com/example/conformal/conformal/Expression$Operator"), (.object "com/example/conformal/conformal/Expression$Operator"), (.object "com/example/conformal/conformal/Expression$Operator"), (.object "com/example/conformal/conformal/Expression$Operator"), (.object "com/example/conformal/conformal/Expression$Operator"), (.object "com/example/conformal/conformal/Expression$Operator"), (.object "com/example/conformal/conformal/Expression$Operator"), (.object "com/example/conformal/conformal/Expression$Operator"), (.object "com/example/conformal/conformal/Expression$Operator"), (.object "com/example/conformal/conformal/Expression$Operator"), (.object "com/example/conformal/conformal/Expression$Operator"), (.object "com/example/conformal/conformal/Expression$Operator"), (.object "com/example/conformal/conformal/Expression$Operator"), (.array (.object "com/example/conformal/conformal/Expression$Operator"))]
  resolved := Array.replicate 240 none
  statics := some 0 }

def pool7 : Array CpInfo := pool [(1, u "java/lang/Cloneable"), (0, .class_ 1), (0, u "java/lang/Object"), (0, .class_ 3)] 3

/-- java/lang/Cloneable -/
def k7 : Class := { plain "java/lang/Cloneable" (some 0) with
  accessFlags := 1537
  interfaces := #[]
  cf := some (fileOf pool7 2 #[] #[] 1537 4 #[] #[])
  fields := #[]
  methods := #[]
  instanceTypes := #[]
  staticTypes := #[]
  resolved := Array.replicate 8 none
  statics := none }

/-- the primitive byte -/
def k8 : Class := { plain "byte" none with kind := .primitive 'B', accessFlags := 0x411 }
/-- [B -/
def k9 : Class := { plain "[B" (some 0) with kind := .array 8 .byte, interfaces := #[7, 4], accessFlags := 1041 }

/-- the primitive int -/
def k10 : Class := { plain "int" none with kind := .primitive 'I', accessFlags := 0x411 }
/-- [I -/
def k11 : Class := { plain "[I" (some 0) with kind := .array 10 .int, interfaces := #[7, 4], accessFlags := 1041 }

def heap : Heap := #[{ cls := 6, slots := #[.ref 1, .ref 6, .ref 5, .ref 4, .ref 9, .ref 17, .ref 15, .ref 7, .ref 2, .ref 18, .ref 13, .ref 8, .ref 10, .ref 14, .ref 16, .ref 12, .ref 11, .ref 3, .null], vm := .statics 6 },
  { cls := 6, slots := #[.null, .int 0, .int 0, .null, .int 0, .null, .null], vm := .none },
  { cls := 6, slots := #[.null, .int 8, .int 0, .null, .int 0, .null, .null], vm := .none },
  { cls := 6, slots := #[.null, .int 17, .int 0, .null, .int 0, .null, .null], vm := .none },
  { cls := 6, slots := #[.null, .int 3, .int 0, .null, .int 0, .null, .null], vm := .none },
  { cls := 6, slots := #[.null, .int 2, .int 0, .null, .int 0, .null, .null], vm := .none },
  { cls := 6, slots := #[.null, .int 1, .int 0, .null, .int 0, .null, .null], vm := .none },
  { cls := 6, slots := #[.null, .int 7, .int 0, .null, .int 0, .null, .null], vm := .none },
  { cls := 6, slots := #[.null, .int 11, .int 0, .null, .int 0, .null, .null], vm := .none },
  { cls := 6, slots := #[.null, .int 4, .int 0, .null, .int 0, .null, .null], vm := .none },
  { cls := 6, slots := #[.null, .int 12, .int 0, .null, .int 0, .null, .null], vm := .none },
  { cls := 6, slots := #[.null, .int 16, .int 0, .null, .int 0, .null, .null], vm := .none },
  { cls := 6, slots := #[.null, .int 15, .int 0, .null, .int 0, .null, .null], vm := .none },
  { cls := 6, slots := #[.null, .int 10, .int 0, .null, .int 0, .null, .null], vm := .none },
  { cls := 6, slots := #[.null, .int 13, .int 0, .null, .int 0, .null, .null], vm := .none },
  { cls := 6, slots := #[.null, .int 6, .int 0, .null, .int 0, .null, .null], vm := .none },
  { cls := 6, slots := #[.null, .int 14, .int 0, .null, .int 0, .null, .null], vm := .none },
  { cls := 6, slots := #[.null, .int 5, .int 0, .null, .int 0, .null, .null], vm := .none },
  { cls := 6, slots := #[.null, .int 9, .int 0, .null, .int 0, .null, .null], vm := .none }]
def classes : Array Class := #[k0, k1, k2, k3, k4, k5, k6, k7, k8, k9, k10, k11]
def interned : List (Array UInt16 × Addr) := []
def slotsUsed : Nat := 145
def theMethod : MethodId := ⟨1, 2⟩
def args0 : Array Value := #[.int 1]
def aboutOver (below : List Frame) : State where
  vm := { classes := classes, interned := interned.toArray }
  heap := heap
  slotsUsed := slotsUsed
  threads := #[{ frames := .invoking theMethod args0 :: below }]
def below0 : List Frame := [.native { method := ⟨0, 0⟩, args := #[] }]
def about1 : State := aboutOver below0
def p0 : Program := .bare "" "" ""
def e0 : Env := launch0.env 0 0 0
theorem w_frames : about1.frames = Frame.invoking theMethod args0 :: below0 := rfl
set_option maxRecDepth 65536 in
theorem w_args : argsFit about1.vm theMethod args0 = true := by decide +kernel
set_option maxRecDepth 65536 in
theorem w_heap : heapFits about1 = true := by decide +kernel
set_option maxRecDepth 65536 in
theorem w_runnable : about1.curStatus? = some .runnable := by decide +kernel
set_option maxRecDepth 65536 in
theorem w_alone : about1.alone = true := by decide +kernel
set_option maxRecDepth 65536 in
theorem w_named : about1.methodNamed? x = some theMethod := by decide +kernel
set_option maxRecDepth 65536 in
theorem w_hears : about1.hears theMethod below0 = true := by decide +kernel
set_option maxRecDepth 65536 in
theorem w_ripe : about1.ripe theMethod args0 below0 = true := by decide +kernel
theorem w_running : about1.status = .running := rfl
set_option maxRecDepth 65536 in
theorem w_room : about1.hasRoom e0.platform room_1 = true :=
  launch0.hasRoom_least _ room_1 (by decide +kernel) (by decide +kernel) (by decide +kernel) (by decide +kernel) (by decide +kernel) (by decide +kernel)
theorem allAtoms_all (ts : List Jvm.Cond) (a : Array Jvm.Value) (st : Jvm.State) : (allAtoms ts).before a st = ts.all (fun c => c.before a st) := by
  induction ts with
  | nil => rfl
  | cons c t ih =>
    show (Jvm.Cond.and c (allAtoms t)).before a st = _
    rw [Jvm.Cond.before_and, ih, List.all_cons]
def words1 : List Jvm.Cond := Jvm.Cond.code x code maxLocals ret :: tables_1
/-- a 'code' word, met by the world's own term for the bytes: nothing is compared byte by byte -/
theorem code_word {y : MethodName} {bytes : ByteArray} {mx : Nat} {rt : Option FieldType} {a : Array Value} {s : State} {m : MethodId} {meth : Method} {c : Code} (h1 : s.methodNamed? y = some m) (h2 : s.vm.method? m = some meth) (h3 : meth.code = some c) (h4 : c.code = bytes)
    (h5 : (c.maxLocals == mx && c.exceptionTable.isEmpty && decide (c.maxStack ≤ mostOperands) && decide (meth.sig.returnType = rt) && !meth.locks && decide (parseMethodDescriptor y.desc = some meth.sig)) = true) : (Jvm.Cond.code y bytes mx rt).before a s = true := by
  simp only [Bool.and_eq_true, beq_iff_eq, Bool.not_eq_true', decide_eq_true_eq] at h5
  obtain ⟨⟨⟨⟨⟨g1, g2⟩, g3⟩, g4⟩, g5⟩, g6⟩ := h5
  simp [Cond.before, Cond.holds, Cond.value, h1, h2, h3, h4, g1, g2, g3, g4, g5, g6]
def isCode : Jvm.Cond → Bool
  | .code _ _ _ _ => true
  | _ => false
theorem all_split {L : List Jvm.Cond} {P : Jvm.Cond → Bool} (h1 : L.all (fun c => isCode c || P c) = true) (h2 : ∀ c ∈ L.filter isCode, P c = true) : L.all P = true := by
  refine List.all_eq_true.mpr fun c hc => ?_
  have h := List.all_eq_true.mp h1 c hc
  rcases Bool.eq_false_or_eq_true (isCode c) with hi | hi
  · exact h2 c (List.mem_filter.mpr ⟨hc, hi⟩)
  · simpa [hi] using h
set_option maxRecDepth 65536 in
theorem w_c0 : (Jvm.Cond.code x code maxLocals ret).before args0 about1 = true := code_word (m := ⟨1, 2⟩) (meth := k1m2) (c := k1c2) (by decide +kernel) rfl rfl rfl (by decide +kernel)
set_option maxRecDepth 65536 in
theorem w_c1 : (Jvm.Cond.code ({ cls := "com/example/conformal/conformal/OperatorIsPrefixPinLaw", name := "pick", desc := "(I)Lcom/example/conformal/conformal/Expression$Operator;" } : Jvm.MethodName) method_2_code (1 : Nat) (Option.some (Jvm.ClassFile.FieldType.object "com/example/conformal/conformal/Expression$Operator"))).before args0 about1 = true := code_word (m := ⟨1, 1⟩) (meth := k1m1) (c := k1c1) (by decide +kernel) rfl rfl rfl (by decide +kernel)
set_option maxRecDepth 65536 in
theorem w_c2 : (Jvm.Cond.code ({ cls := "com/example/conformal/conformal/Expression$Operator", name := "isPrefix", desc := "()Z" } : Jvm.MethodName) prog_16_method_6_code (1 : Nat) (Option.some Jvm.ClassFile.FieldType.boolean)).before args0 about1 = true := code_word (m := ⟨6, 0⟩) (meth := k6m0) (c := k6c0) (by decide +kernel) rfl rfl rfl (by decide +kernel)
def codes1 : List Jvm.Cond := [Jvm.Cond.code x code maxLocals ret, Jvm.Cond.code ({ cls := "com/example/conformal/conformal/OperatorIsPrefixPinLaw", name := "pick", desc := "(I)Lcom/example/conformal/conformal/Expression$Operator;" } : Jvm.MethodName) method_2_code (1 : Nat) (Option.some (Jvm.ClassFile.FieldType.object "com/example/conformal/conformal/Expression$Operator")), Jvm.Cond.code ({ cls := "com/example/conformal/conformal/Expression$Operator", name := "isPrefix", desc := "()Z" } : Jvm.MethodName) prog_16_method_6_code (1 : Nat) (Option.some Jvm.ClassFile.FieldType.boolean)]
set_option maxRecDepth 65536 in
theorem codes_eq : words1.filter isCode = codes1 := rfl
theorem w_codes : ∀ c ∈ words1.filter isCode, c.before args0 about1 = true := by
  rw [codes_eq]
  intro c hc
  simp only [codes1, List.mem_cons, List.not_mem_nil, or_false] at hc
  rcases hc with rfl | rfl | rfl
  · exact w_c0
  · exact w_c1
  · exact w_c2
set_option maxRecDepth 65536 in
theorem w_t1 : (words1.take 24).all (fun c => isCode c || c.before args0 about1) = true := by decide +kernel
set_option maxRecDepth 65536 in
theorem w_t2 : ((words1.drop 24).take 24).all (fun c => isCode c || c.before args0 about1) = true := by decide +kernel
set_option maxRecDepth 65536 in
theorem w_t3 : ((words1.drop 24).drop 24).all (fun c => isCode c || c.before args0 about1) = true := by decide +kernel
theorem w_tables : (allAtoms (Jvm.Cond.code x code maxLocals ret :: tables_1)).before args0 about1 = true := by
  rw [allAtoms_all]
  show words1.all (fun c => c.before args0 about1) = true
  refine all_split ?_ w_codes
  rw [← List.take_append_drop 24 words1, List.all_append, w_t1, ← List.take_append_drop 24 (words1.drop 24), List.all_append, w_t2, w_t3]
  rfl
set_option maxRecDepth 65536 in
theorem w_case : (Jvm.Cond.and given_1 narrow_1).before args0 about1 = true := by decide +kernel
theorem w_applies : (headSpec (Jvm.Cond.code x code maxLocals ret :: tables_1) room_1).applies x e0.platform about1 = true :=
  (Spec.applies_iff w_frames).mpr ⟨w_running, w_runnable, w_alone, w_named, w_hears, w_ripe, w_room, w_tables⟩
theorem atStart : AtStart classFile x code maxLocals ret World_1 tables_1 room_1 Calls_1 rest_1 Pre_1 launch0 p0 e0 about1 theMethod args0 below0 :=
  ⟨lists_1, trivial, launch0.admits_env _ _ _, launch0.least_env, fairChoices_fair.cas, fairChoices_fair.clock, w_frames, w_args, w_heap, w_applies, trivial, trivial, w_case⟩
end start1
theorem witness_1 : WitnessClaimed_1 := ⟨start1.p0, start1.e0, start1.about1, start1.theMethod, start1.args0, start1.below0, start1.atStart⟩
end Jvm.Pilot.@@N@@
