import JvmDerived
import JvmDerived.Pilot.@@N@@Statement
import JvmDerived.Pilot.@@N@@Code
set_option linter.unusedVariables false
set_option linter.unusedSimpArgs false
namespace Jvm.RoadKit
open Sem ClassFile Op Lib Jvm.Stand Jvm.Free Jvm.LawKit
section New
variable {p : Program} {l : Launch} {e : Env} {R : Room} {s : State} {m : MethodId} {args : Array Value} {below : List Frame} {meth : Method} {c : Code} {T : State} {locs : List Loc} {cells slots : Nat}
theorem retI (X : Stand p l e R s m args below meth c T locs cells slots) (hx : p.tables.exec = Jvm.exec) {pc : Nat} {Ls : Array Slot} {z : Int32} {rest : List Value} (hret : meth.sig.returnType = some .int) (hd : decode c.code pc = .ok (.ireturn, 1)) {fs : List Frame}
    (hl : ∀ (f : JFrame) (acts : List Action), f.method = m → f.locked = none → f.entered = [] → (doReturn e (T.setTop f) acts (some (.int z))).1 = T.setFrames fs) : Steps p.tables e below (T.setTop (mkF m pc Ls (.int z :: rest))) (T.setFrames fs) := by
  have hm' : T.vm.method? m = some meth := X.method'
  have hn : narrow .int (.int z) = .int z := rfl
  show Steps p.tables e below (T.setTop { method := m, pc := pc, locals := Ls, stack := _ :: rest, locked := none }) _
  jvm_step X.here [X.here.top, hx, hd, hm', hret, hn]
  first | (intro acts; rw [hl _ acts rfl rfl rfl]) | rw [hl _ _ rfl rfl rfl]
  exact Steps.refl _
end New
end Jvm.RoadKit
@@BLOCK:NumsL.lean.txt@@
namespace Jvm.Pilot.@@N@@
open Jvm Jvm.ClassFile Sem Op Lib Jvm.Free Jvm.Stand Jvm.LawKit Jvm.RoadKit Bundle Jvm.Pilot.@@N@@.Jvm.D
/-- a run from here that ends well -/
def own_G (p : Program) (e : Env) (below : List Frame) (P : Outcome → State → Prop) (S : State) : Prop := ∃ s₂ o, Steps p.tables e below S s₂ ∧ s₂.status = .running ∧ Ended s₂ below o ∧ P o s₂
theorem own_go {p : Program} {e : Env} {below : List Frame} {P : Outcome → State → Prop} {S : State} (S' : State) (k : ∀ t, Steps p.tables e below S' t → Steps p.tables e below S t) (h : own_G p e below P S') : own_G p e below P S := by
  obtain ⟨s₂, o, h1, h2⟩ := h
  exact ⟨s₂, o, k _ h1, h2⟩
theorem own_one {x : Slot} (h : One x) : (match x with | .second => False | .val old => old.category = 1 | .unset => True) := by
  rcases h with rfl | ⟨w, rfl, hw⟩
  · trivial
  · exact hw
theorem own_selp {s : State} {args : Array Value} {D : String} {y z : MethodName} (h : (Cond.selects D z z).before args s = true) (hc : z.cls = y.cls) (hpriv : s.PrivateAt y) (hinst : (Cond.instanceMethod y).before args s = true) (hy : y.cls ≠ "java/lang/invoke/MethodHandle" ∧ y.cls ≠ "java/lang/invoke/VarHandle") : (Cond.selects y.cls y y).before args s = true := by
  obtain ⟨c, r, m, q1, q2, q3, q4, mk, hk, hi⟩ := Cond.selects_spec h
  exact selects_self_of_private (hc ▸ findClass_of_methodNamed q3) hk hi hpriv hinst hy
theorem own_same {s : State} {args : Array Value} {D : String} {y z : MethodName} (hinst : (Cond.instanceMethod y).before args s = true) (hsel : (Cond.selects D z z).before args s = true) (hc : z.cls = y.cls) (hy : y.cls ≠ "java/lang/invoke/MethodHandle" ∧ y.cls ≠ "java/lang/invoke/VarHandle") : (Cond.sameMethod y.cls y.cls y.name y.desc).before args s = true := by
  obtain ⟨mk, methM, hnamed, hmethM, -, -⟩ := Cond.instanceMethod_spec hinst
  obtain ⟨c, r, m, q1, q2, q3, q4, k, hk, hi⟩ := Cond.selects_spec hsel
  have hfound := State.methodFound?_of_named hnamed hy
  have hcn := findClass_of_methodNamed hnamed
  have e : m.cls = mk.cls := Option.some.inj ((findClass_of_methodNamed q3).symm.trans (hc ▸ hcn))
  rw [e] at hk
  obtain ⟨yc, yn, yd⟩ := y
  simp_all [Cond.before, Cond.holds, Cond.value]
theorem own_nf {s : State} {args : Array Value} {D : String} {y z : MethodName} (hsel : (Cond.selects D z z).before args s = true) (hc : z.cls = y.cls) : NotFace s y := fun r0 h0 => by
  obtain ⟨c, r, m, q1, q2, q3, q4, k, hk, hi⟩ := Cond.selects_spec hsel
  have e : m.cls = r0.cls := Option.some.inj ((findClass_of_methodNamed q3).symm.trans (hc ▸ findClass_of_methodNamed h0))
  exact ⟨k, e ▸ hk, hi⟩
theorem own_lt {x y : Int64} : lcmpW x y < 0 ↔ x < y := by rw [lcW]; exact lc_lt x y
theorem own_gt {x y : Int64} : (0 : Int32) < lcmpW x y ↔ y < x := by rw [lcW]; exact lc_gt x y
theorem own_eq {x y : Int64} : lcmpW x y = 0 ↔ x = y := by rw [lcW]; exact lc_eq x y
theorem own_extK {Z : State} {h h' : Heap} {ws : List Addr} (O : Ext Z.heap h) (K : Keep h h' ws) (q : ∀ x ∈ ws, Z.heap.size ≤ x) : Ext Z.heap h' :=
  (Old.keep (n0 := Z.heap.size) ⟨rfl, O⟩ K q).2
theorem own_ext {h h1 h2 : Heap} (E : Ext h h1) (F : Ext h1 h2) : Ext h h2 := ⟨Nat.le_trans E.1 F.1, fun a c q => F.2 a c (E.2 a c q)⟩
theorem own_extW {Z : State} {h h' : Heap} {a : Addr} {sl : Nat} {v : Value} (O : Ext Z.heap h) (W : Wr h h' a sl v) (q : Z.heap.size ≤ a) : Ext Z.heap h' := own_extK O (Keep.of_wr W) (allS q all0)
theorem own_fldI {s : State} {args : Array Value} {t : Term} {C n d : String} {k : Int32} {a : Addr} (h : (Cond.eq (Term.field t C n d) (Term.int k)).value args s none s [] = some true) (ev : t.eval args s none [] s = some (.ref a)) : Fld s s.heap a C n d (.int k) := by
  obtain ⟨x, y, h1, h2, h3, -⟩ := cmp_v (Or.inl h)
  have h4 : s.fieldOf? a C n d = some x := (fld_at ev).symm.trans h1
  have h5 : y = .int k := (Option.some.inj (h2.symm.trans (Term.int_eval k)))
  subst h5
  cases x with
  | int z =>
    simp only [Cond.value, h1, h2] at h
    have e : z = k := by simpa using h
    subst e
    exact Fld.start h4
  | _ => simp [Kin, Value.isRef] at h3
theorem own_fldV {s : State} {args : Array Value} {t u : Term} {C n d : String} {b : Addr} {a : Addr} (h : (Cond.eq (Term.field t C n d) u).value args s none s [] = some true) (ev : t.eval args s none [] s = some (.ref a)) (eu : u.eval args s none [] s = some (.ref b)) : Fld s s.heap a C n d (.ref b) := by
  obtain ⟨x, y, h1, h2, h3, -⟩ := cmp_v (Or.inl h)
  have h4 : s.fieldOf? a C n d = some x := (fld_at ev).symm.trans h1
  have h5 : y = .ref b := (Option.some.inj (h2.symm.trans eu))
  subst h5
  cases x with
  | ref z =>
    simp only [Cond.value, h1, h2] at h
    have e : z = b := by simpa using h
    subst e
    exact Fld.start h4
  | null => simp [Cond.value, h1, h2] at h
  | _ => simp [Kin, Value.isRef] at h3
theorem own_elemI {s : State} {args : Array Value} {t : Term} {j k : Int32} {a : Addr} {cl : Cell} (h : (Cond.eq (Term.elem t (Term.int j)) (Term.int k)).value args s none s [] = some true) (ev : t.eval args s none [] s = some (.ref a)) (hc : s.heap[a]? = some cl) : ¬ (j < 0 ∨ cl.slots.size ≤ j.toNatClampNeg) ∧ cl.slots[j.toNatClampNeg]? = some (.int k) := by
  obtain ⟨x, y, h1, h2, h3, -⟩ := cmp_v (Or.inl h)
  have h4 := elem_in h1 ev (Term.int_eval j) hc
  have h5 : y = .int k := (Option.some.inj (h2.symm.trans (Term.int_eval k)))
  subst h5
  cases x with
  | int z =>
    simp only [Cond.value, h1, h2] at h
    have e : z = k := by simpa using h
    subst e
    exact h4
  | _ => simp [Kin, Value.isRef] at h3
theorem own_elemV {s : State} {args : Array Value} {t u : Term} {j : Int32} {a b : Addr} {cl : Cell} (h : (Cond.eq (Term.elem t (Term.int j)) u).value args s none s [] = some true) (ev : t.eval args s none [] s = some (.ref a)) (eu : u.eval args s none [] s = some (.ref b)) (hc : s.heap[a]? = some cl) : ¬ (j < 0 ∨ cl.slots.size ≤ j.toNatClampNeg) ∧ cl.slots[j.toNatClampNeg]? = some (.ref b) := by
  obtain ⟨x, y, h1, h2, h3, -⟩ := cmp_v (Or.inl h)
  have h4 := elem_in h1 ev (Term.int_eval j) hc
  have h5 : y = .ref b := (Option.some.inj (h2.symm.trans eu))
  subst h5
  cases x with
  | ref z =>
    simp only [Cond.value, h1, h2] at h
    have e : z = b := by simpa using h
    subst e
    exact h4
  | null => simp [Cond.value, h1, h2] at h
  | _ => simp [Kin, Value.isRef] at h3
theorem own_fldN {s : State} {args : Array Value} {t : Term} {C n d : String} {a : Addr} (h : (Cond.eq (Term.field t C n d) Term.null).value args s none s [] = some true) (ev : t.eval args s none [] s = some (.ref a)) : Fld s s.heap a C n d .null :=
  Fld.start ((fld_at ev).symm.trans (null_v h))
def own_W (Z : State) (a_MEDIA : Addr) (a_EMAIL : Addr) (a_DVD : Addr) (a_URI : Addr) (a_SD : Addr) (a_CD : Addr) (a_XDS_I_SUBMISSION : Addr) (a_MMC : Addr) (a_PAPER : Addr) (a_USB : Addr) (a_COMPACT_FLASH : Addr) (a_FILM : Addr) : Prop := (Sta Z Z.heap "com/example/trailcaster/trailcaster/model/ExportTrigger" "MEDIA" "Lcom/example/trailcaster/trailcaster/model/ExportTrigger;" (.ref a_MEDIA)) ∧ (Exa Z Z.heap a_MEDIA "com/example/trailcaster/trailcaster/model/ExportTrigger") ∧ (Sta Z Z.heap "com/example/trailcaster/trailcaster/model/MediaType" "EMAIL" "Lcom/example/trailcaster/trailcaster/model/MediaType;" (.ref a_EMAIL)) ∧ (Exa Z Z.heap a_EMAIL "com/example/trailcaster/trailcaster/model/MediaType") ∧ (Sta Z Z.heap "com/example/trailcaster/trailcaster/model/MediaType" "DVD" "Lcom/example/trailcaster/trailcaster/model/MediaType;" (.ref a_DVD)) ∧ (Exa Z Z.heap a_DVD "com/example/trailcaster/trailcaster/model/MediaType") ∧ (Sta Z Z.heap "com/example/trailcaster/trailcaster/model/MediaType" "URI" "Lcom/example/trailcaster/trailcaster/model/MediaType;" (.ref a_URI)) ∧ (Exa Z Z.heap a_URI "com/example/trailcaster/trailcaster/model/MediaType") ∧ (Sta Z Z.heap "com/example/trailcaster/trailcaster/model/MediaType" "SD" "Lcom/example/trailcaster/trailcaster/model/MediaType;" (.ref a_SD)) ∧ (Exa Z Z.heap a_SD "com/example/trailcaster/trailcaster/model/MediaType") ∧ (Sta Z Z.heap "com/example/trailcaster/trailcaster/model/MediaType" "CD" "Lcom/example/trailcaster/trailcaster/model/MediaType;" (.ref a_CD)) ∧ (Exa Z Z.heap a_CD "com/example/trailcaster/trailcaster/model/MediaType") ∧ (Sta Z Z.heap "com/example/trailcaster/trailcaster/model/ExportTrigger" "XDS_I_SUBMISSION" "Lcom/example/trailcaster/trailcaster/model/ExportTrigger;" (.ref a_XDS_I_SUBMISSION)) ∧ (Exa Z Z.heap a_XDS_I_SUBMISSION "com/example/trailcaster/trailcaster/model/ExportTrigger") ∧ (Sta Z Z.heap "com/example/trailcaster/trailcaster/model/MediaType" "MMC" "Lcom/example/trailcaster/trailcaster/model/MediaType;" (.ref a_MMC)) ∧ (Exa Z Z.heap a_MMC "com/example/trailcaster/trailcaster/model/MediaType") ∧ (Sta Z Z.heap "com/example/trailcaster/trailcaster/model/MediaType" "PAPER" "Lcom/example/trailcaster/trailcaster/model/MediaType;" (.ref a_PAPER)) ∧ (Exa Z Z.heap a_PAPER "com/example/trailcaster/trailcaster/model/MediaType") ∧ (Sta Z Z.heap "com/example/trailcaster/trailcaster/model/MediaType" "USB" "Lcom/example/trailcaster/trailcaster/model/MediaType;" (.ref a_USB)) ∧ (Exa Z Z.heap a_USB "com/example/trailcaster/trailcaster/model/MediaType") ∧ (Sta Z Z.heap "com/example/trailcaster/trailcaster/model/MediaType" "COMPACT_FLASH" "Lcom/example/trailcaster/trailcaster/model/MediaType;" (.ref a_COMPACT_FLASH)) ∧ (Exa Z Z.heap a_COMPACT_FLASH "com/example/trailcaster/trailcaster/model/MediaType") ∧ (Sta Z Z.heap "com/example/trailcaster/trailcaster/model/MediaType" "FILM" "Lcom/example/trailcaster/trailcaster/model/MediaType;" (.ref a_FILM)) ∧ (Exa Z Z.heap a_FILM "com/example/trailcaster/trailcaster/model/MediaType") ∧ (Fld Z Z.heap a_MEDIA "com/example/trailcaster/trailcaster/model/ExportTrigger" "overNetworkOnly" "Z" (.int (0 : Int32))) ∧ (Fld Z Z.heap a_DVD "java/lang/Enum" "ordinal" "I" (.int (1 : Int32))) ∧ (Fld Z Z.heap a_EMAIL "java/lang/Enum" "ordinal" "I" (.int (3 : Int32))) ∧ (Fld Z Z.heap a_URI "java/lang/Enum" "ordinal" "I" (.int (7 : Int32))) ∧ (Fld Z Z.heap a_SD "java/lang/Enum" "ordinal" "I" (.int (6 : Int32))) ∧ (Fld Z Z.heap a_CD "java/lang/Enum" "ordinal" "I" (.int (0 : Int32))) ∧ (Fld Z Z.heap a_XDS_I_SUBMISSION "com/example/trailcaster/trailcaster/model/ExportTrigger" "overNetworkOnly" "Z" (.int (1 : Int32))) ∧ (Fld Z Z.heap a_EMAIL "com/example/trailcaster/trailcaster/model/MediaType" "overNetwork" "Z" (.int (1 : Int32))) ∧ (Fld Z Z.heap a_MMC "java/lang/Enum" "ordinal" "I" (.int (5 : Int32))) ∧ (Fld Z Z.heap a_CD "com/example/trailcaster/trailcaster/model/MediaType" "overNetwork" "Z" (.int (0 : Int32))) ∧ (Fld Z Z.heap a_DVD "com/example/trailcaster/trailcaster/model/MediaType" "overNetwork" "Z" (.int (0 : Int32))) ∧ (Fld Z Z.heap a_PAPER "java/lang/Enum" "ordinal" "I" (.int (9 : Int32))) ∧ (Fld Z Z.heap a_PAPER "com/example/trailcaster/trailcaster/model/MediaType" "overNetwork" "Z" (.int (0 : Int32))) ∧ (Fld Z Z.heap a_USB "java/lang/Enum" "ordinal" "I" (.int (2 : Int32))) ∧ (Fld Z Z.heap a_USB "com/example/trailcaster/trailcaster/model/MediaType" "overNetwork" "Z" (.int (0 : Int32))) ∧ (Fld Z Z.heap a_URI "com/example/trailcaster/trailcaster/model/MediaType" "overNetwork" "Z" (.int (1 : Int32))) ∧ (Fld Z Z.heap a_COMPACT_FLASH "java/lang/Enum" "ordinal" "I" (.int (4 : Int32))) ∧ (Fld Z Z.heap a_MMC "com/example/trailcaster/trailcaster/model/MediaType" "overNetwork" "Z" (.int (0 : Int32))) ∧ (Fld Z Z.heap a_COMPACT_FLASH "com/example/trailcaster/trailcaster/model/MediaType" "overNetwork" "Z" (.int (0 : Int32))) ∧ (Fld Z Z.heap a_SD "com/example/trailcaster/trailcaster/model/MediaType" "overNetwork" "Z" (.int (0 : Int32))) ∧ (Fld Z Z.heap a_FILM "java/lang/Enum" "ordinal" "I" (.int (8 : Int32))) ∧ (Fld Z Z.heap a_FILM "com/example/trailcaster/trailcaster/model/MediaType" "overNetwork" "Z" (.int (0 : Int32)))
theorem own_case {i : Int32} {k : Int} (c : Int32) (h : i.toInt = k) (hc : c.toInt = k) : i = c := Int32.toInt_inj.mp (h.trans hc.symm)
theorem own_mask (x : Int32) : 0 ≤ (x &&& 2147483647).toInt := by
  have e := Jvm.Kit.i32_mask x 2147483647 (k := 31) (by decide) (by decide)
  omega
theorem own_mod (x n : Int32) (hn : 0 < n.toInt) : 0 ≤ ((x &&& 2147483647) % n).toInt ∧ ((x &&& 2147483647) % n).toInt < n.toInt := by
  rw [Jvm.Kit.i32_rem_nonneg (own_mask x)]
  exact ⟨Int.emod_nonneg _ (by omega), Int.emod_lt_of_pos _ hn⟩
theorem own_and3 (x : Int32) : (x &&& 3) = 0 ∨ (x &&& 3) = 1 ∨ (x &&& 3) = 2 ∨ (x &&& 3) = 3 := by
  have e := Jvm.Kit.i32_mask x 3 (k := 2) (by decide) (by decide)
  rcases (by omega : (x &&& 3).toInt = 0 ∨ (x &&& 3).toInt = 1 ∨ (x &&& 3).toInt = 2 ∨ (x &&& 3).toInt = 3) with q | q | q | q
  · exact Or.inl (own_case 0 q (by decide))
  · exact Or.inr (Or.inl (own_case 1 q (by decide)))
  · exact Or.inr (Or.inr (Or.inl (own_case 2 q (by decide))))
  · exact Or.inr (Or.inr (Or.inr (own_case 3 q (by decide))))
def own_pick (i : Int32) (a_CD : Addr) (a_DVD : Addr) (a_USB : Addr) (a_EMAIL : Addr) (a_COMPACT_FLASH : Addr) (a_MMC : Addr) (a_SD : Addr) (a_URI : Addr) (a_FILM : Addr) (a_PAPER : Addr) : Addr := if i = 0 then a_CD else if i = 1 then a_DVD else if i = 2 then a_USB else if i = 3 then a_EMAIL else if i = 4 then a_COMPACT_FLASH else if i = 5 then a_MMC else if i = 6 then a_SD else if i = 7 then a_URI else if i = 8 then a_FILM else a_PAPER
def own_net (i : Int32) : Int32 := if i = 3 then 1 else if i = 7 then 1 else 0
theorem own_pick_exa {Z : State} {a_MEDIA : Addr} {a_EMAIL : Addr} {a_DVD : Addr} {a_URI : Addr} {a_SD : Addr} {a_CD : Addr} {a_XDS_I_SUBMISSION : Addr} {a_MMC : Addr} {a_PAPER : Addr} {a_USB : Addr} {a_COMPACT_FLASH : Addr} {a_FILM : Addr} (i : Int32) (w : own_W Z a_MEDIA a_EMAIL a_DVD a_URI a_SD a_CD a_XDS_I_SUBMISSION a_MMC a_PAPER a_USB a_COMPACT_FLASH a_FILM) : Exa Z Z.heap (own_pick i a_CD a_DVD a_USB a_EMAIL a_COMPACT_FLASH a_MMC a_SD a_URI a_FILM a_PAPER) "com/example/trailcaster/trailcaster/model/MediaType" := by
  obtain ⟨S_MEDIA, X_MEDIA, S_EMAIL, X_EMAIL, S_DVD, X_DVD, S_URI, X_URI, S_SD, X_SD, S_CD, X_CD, S_XDS_I_SUBMISSION, X_XDS_I_SUBMISSION, S_MMC, X_MMC, S_PAPER, X_PAPER, S_USB, X_USB, S_COMPACT_FLASH, X_COMPACT_FLASH, S_FILM, X_FILM, F_MEDIA_overNetworkOnly, F_DVD_ordinal, F_EMAIL_ordinal, F_URI_ordinal, F_SD_ordinal, F_CD_ordinal, F_XDS_I_SUBMISSION_overNetworkOnly, F_EMAIL_overNetwork, F_MMC_ordinal, F_CD_overNetwork, F_DVD_overNetwork, F_PAPER_ordinal, F_PAPER_overNetwork, F_USB_ordinal, F_USB_overNetwork, F_URI_overNetwork, F_COMPACT_FLASH_ordinal, F_MMC_overNetwork, F_COMPACT_FLASH_overNetwork, F_SD_overNetwork, F_FILM_ordinal, F_FILM_overNetwork⟩ := w
  unfold own_pick
  repeat' split
  all_goals assumption
theorem own_pick_ord {Z : State} {a_MEDIA : Addr} {a_EMAIL : Addr} {a_DVD : Addr} {a_URI : Addr} {a_SD : Addr} {a_CD : Addr} {a_XDS_I_SUBMISSION : Addr} {a_MMC : Addr} {a_PAPER : Addr} {a_USB : Addr} {a_COMPACT_FLASH : Addr} {a_FILM : Addr} (i : Int32) (w : own_W Z a_MEDIA a_EMAIL a_DVD a_URI a_SD a_CD a_XDS_I_SUBMISSION a_MMC a_PAPER a_USB a_COMPACT_FLASH a_FILM) (h0 : 0 ≤ i.toInt) (h1 : i.toInt < 10) : Fld Z Z.heap (own_pick i a_CD a_DVD a_USB a_EMAIL a_COMPACT_FLASH a_MMC a_SD a_URI a_FILM a_PAPER) "java/lang/Enum" "ordinal" "I" (.int i) := by
  obtain ⟨S_MEDIA, X_MEDIA, S_EMAIL, X_EMAIL, S_DVD, X_DVD, S_URI, X_URI, S_SD, X_SD, S_CD, X_CD, S_XDS_I_SUBMISSION, X_XDS_I_SUBMISSION, S_MMC, X_MMC, S_PAPER, X_PAPER, S_USB, X_USB, S_COMPACT_FLASH, X_COMPACT_FLASH, S_FILM, X_FILM, F_MEDIA_overNetworkOnly, F_DVD_ordinal, F_EMAIL_ordinal, F_URI_ordinal, F_SD_ordinal, F_CD_ordinal, F_XDS_I_SUBMISSION_overNetworkOnly, F_EMAIL_overNetwork, F_MMC_ordinal, F_CD_overNetwork, F_DVD_overNetwork, F_PAPER_ordinal, F_PAPER_overNetwork, F_USB_ordinal, F_USB_overNetwork, F_URI_overNetwork, F_COMPACT_FLASH_ordinal, F_MMC_overNetwork, F_COMPACT_FLASH_overNetwork, F_SD_overNetwork, F_FILM_ordinal, F_FILM_overNetwork⟩ := w
  rcases (by omega : i.toInt = 0 ∨ i.toInt = 1 ∨ i.toInt = 2 ∨ i.toInt = 3 ∨ i.toInt = 4 ∨ i.toInt = 5 ∨ i.toInt = 6 ∨ i.toInt = 7 ∨ i.toInt = 8 ∨ i.toInt = 9) with q | q | q | q | q | q | q | q | q | q
  · obtain rfl := own_case 0 q (by decide)
    exact F_CD_ordinal
  · obtain rfl := own_case 1 q (by decide)
    exact F_DVD_ordinal
  · obtain rfl := own_case 2 q (by decide)
    exact F_USB_ordinal
  · obtain rfl := own_case 3 q (by decide)
    exact F_EMAIL_ordinal
  · obtain rfl := own_case 4 q (by decide)
    exact F_COMPACT_FLASH_ordinal
  · obtain rfl := own_case 5 q (by decide)
    exact F_MMC_ordinal
  · obtain rfl := own_case 6 q (by decide)
    exact F_SD_ordinal
  · obtain rfl := own_case 7 q (by decide)
    exact F_URI_ordinal
  · obtain rfl := own_case 8 q (by decide)
    exact F_FILM_ordinal
  · obtain rfl := own_case 9 q (by decide)
    exact F_PAPER_ordinal
theorem own_pick_net {Z : State} {a_MEDIA : Addr} {a_EMAIL : Addr} {a_DVD : Addr} {a_URI : Addr} {a_SD : Addr} {a_CD : Addr} {a_XDS_I_SUBMISSION : Addr} {a_MMC : Addr} {a_PAPER : Addr} {a_USB : Addr} {a_COMPACT_FLASH : Addr} {a_FILM : Addr} (i : Int32) (w : own_W Z a_MEDIA a_EMAIL a_DVD a_URI a_SD a_CD a_XDS_I_SUBMISSION a_MMC a_PAPER a_USB a_COMPACT_FLASH a_FILM) (h0 : 0 ≤ i.toInt) (h1 : i.toInt < 10) : Fld Z Z.heap (own_pick i a_CD a_DVD a_USB a_EMAIL a_COMPACT_FLASH a_MMC a_SD a_URI a_FILM a_PAPER) "com/example/trailcaster/trailcaster/model/MediaType" "overNetwork" "Z" (.int (own_net i)) := by
  obtain ⟨S_MEDIA, X_MEDIA, S_EMAIL, X_EMAIL, S_DVD, X_DVD, S_URI, X_URI, S_SD, X_SD, S_CD, X_CD, S_XDS_I_SUBMISSION, X_XDS_I_SUBMISSION, S_MMC, X_MMC, S_PAPER, X_PAPER, S_USB, X_USB, S_COMPACT_FLASH, X_COMPACT_FLASH, S_FILM, X_FILM, F_MEDIA_overNetworkOnly, F_DVD_ordinal, F_EMAIL_ordinal, F_URI_ordinal, F_SD_ordinal, F_CD_ordinal, F_XDS_I_SUBMISSION_overNetworkOnly, F_EMAIL_overNetwork, F_MMC_ordinal, F_CD_overNetwork, F_DVD_overNetwork, F_PAPER_ordinal, F_PAPER_overNetwork, F_USB_ordinal, F_USB_overNetwork, F_URI_overNetwork, F_COMPACT_FLASH_ordinal, F_MMC_overNetwork, F_COMPACT_FLASH_overNetwork, F_SD_overNetwork, F_FILM_ordinal, F_FILM_overNetwork⟩ := w
  rcases (by omega : i.toInt = 0 ∨ i.toInt = 1 ∨ i.toInt = 2 ∨ i.toInt = 3 ∨ i.toInt = 4 ∨ i.toInt = 5 ∨ i.toInt = 6 ∨ i.toInt = 7 ∨ i.toInt = 8 ∨ i.toInt = 9) with q | q | q | q | q | q | q | q | q | q
  · obtain rfl := own_case 0 q (by decide)
    exact F_CD_overNetwork
  · obtain rfl := own_case 1 q (by decide)
    exact F_DVD_overNetwork
  · obtain rfl := own_case 2 q (by decide)
    exact F_USB_overNetwork
  · obtain rfl := own_case 3 q (by decide)
    exact F_EMAIL_overNetwork
  · obtain rfl := own_case 4 q (by decide)
    exact F_COMPACT_FLASH_overNetwork
  · obtain rfl := own_case 5 q (by decide)
    exact F_MMC_overNetwork
  · obtain rfl := own_case 6 q (by decide)
    exact F_SD_overNetwork
  · obtain rfl := own_case 7 q (by decide)
    exact F_URI_overNetwork
  · obtain rfl := own_case 8 q (by decide)
    exact F_FILM_overNetwork
  · obtain rfl := own_case 9 q (by decide)
    exact F_PAPER_overNetwork
theorem own_net01 (i : Int32) : nar .boolean (own_net i) = own_net i := by
  unfold own_net
  repeat' split
  all_goals rfl
theorem own_pn0 : plainName "com/example/trailcaster/trailcaster/model/ExportTriggerTakesPinLaw" = true := by first | (simp [plainName, overriddenIn]; done) | decide +kernel
theorem own_ef_pick (m : MethodId) (i : Int32) : entryFrame m #[(.int i)] 1 = mkF m 0 #[.val (.int i)] [] := by first | (simp [entryFrame, mkF, argsToLocals, Value.category]; done) | rfl
theorem own_d_method_2_0 : decode method_2_code 0 = .ok (.iload_n 0, 1) := by decide +kernel
theorem own_d_method_2_1 : decode method_2_code 1 = .ok (.ifCond .ne 7, 3) := by decide +kernel
theorem own_d_method_2_4 : decode method_2_code 4 = .ok (.getstatic 7, 3) := by decide +kernel
theorem own_d_method_2_7 : decode method_2_code 7 = .ok (.areturn, 1) := by decide +kernel
theorem own_d_method_2_8 : decode method_2_code 8 = .ok (.iload_n 0, 1) := by decide +kernel
theorem own_d_method_2_9 : decode method_2_code 9 = .ok (.iconst 1, 1) := by decide +kernel
theorem own_d_method_2_10 : decode method_2_code 10 = .ok (.if_icmp .ne 7, 3) := by decide +kernel
theorem own_d_method_2_13 : decode method_2_code 13 = .ok (.getstatic 13, 3) := by decide +kernel
theorem own_d_method_2_16 : decode method_2_code 16 = .ok (.areturn, 1) := by decide +kernel
theorem own_d_method_2_17 : decode method_2_code 17 = .ok (.iload_n 0, 1) := by decide +kernel
theorem own_d_method_2_18 : decode method_2_code 18 = .ok (.iconst 2, 1) := by decide +kernel
theorem own_d_method_2_19 : decode method_2_code 19 = .ok (.if_icmp .ne 7, 3) := by decide +kernel
theorem own_d_method_2_22 : decode method_2_code 22 = .ok (.getstatic 16, 3) := by decide +kernel
theorem own_d_method_2_25 : decode method_2_code 25 = .ok (.areturn, 1) := by decide +kernel
theorem own_d_method_2_26 : decode method_2_code 26 = .ok (.iload_n 0, 1) := by decide +kernel
theorem own_d_method_2_27 : decode method_2_code 27 = .ok (.iconst 3, 1) := by decide +kernel
theorem own_d_method_2_28 : decode method_2_code 28 = .ok (.if_icmp .ne 7, 3) := by decide +kernel
theorem own_d_method_2_31 : decode method_2_code 31 = .ok (.getstatic 19, 3) := by decide +kernel
theorem own_d_method_2_34 : decode method_2_code 34 = .ok (.areturn, 1) := by decide +kernel
theorem own_d_method_2_35 : decode method_2_code 35 = .ok (.iload_n 0, 1) := by decide +kernel
theorem own_d_method_2_36 : decode method_2_code 36 = .ok (.iconst 4, 1) := by decide +kernel
theorem own_d_method_2_37 : decode method_2_code 37 = .ok (.if_icmp .ne 7, 3) := by decide +kernel
theorem own_d_method_2_40 : decode method_2_code 40 = .ok (.getstatic 22, 3) := by decide +kernel
theorem own_d_method_2_43 : decode method_2_code 43 = .ok (.areturn, 1) := by decide +kernel
theorem own_d_method_2_44 : decode method_2_code 44 = .ok (.iload_n 0, 1) := by decide +kernel
theorem own_d_method_2_45 : decode method_2_code 45 = .ok (.iconst 5, 1) := by decide +kernel
theorem own_d_method_2_46 : decode method_2_code 46 = .ok (.if_icmp .ne 7, 3) := by decide +kernel
theorem own_d_method_2_49 : decode method_2_code 49 = .ok (.getstatic 25, 3) := by decide +kernel
theorem own_d_method_2_52 : decode method_2_code 52 = .ok (.areturn, 1) := by decide +kernel
theorem own_d_method_2_53 : decode method_2_code 53 = .ok (.iload_n 0, 1) := by decide +kernel
theorem own_d_method_2_54 : decode method_2_code 54 = .ok (.bipush 6, 2) := by decide +kernel
theorem own_d_method_2_56 : decode method_2_code 56 = .ok (.if_icmp .ne 7, 3) := by decide +kernel
theorem own_d_method_2_59 : decode method_2_code 59 = .ok (.getstatic 28, 3) := by decide +kernel
theorem own_d_method_2_62 : decode method_2_code 62 = .ok (.areturn, 1) := by decide +kernel
theorem own_d_method_2_63 : decode method_2_code 63 = .ok (.iload_n 0, 1) := by decide +kernel
theorem own_d_method_2_64 : decode method_2_code 64 = .ok (.bipush 7, 2) := by decide +kernel
theorem own_d_method_2_66 : decode method_2_code 66 = .ok (.if_icmp .ne 7, 3) := by decide +kernel
theorem own_d_method_2_69 : decode method_2_code 69 = .ok (.getstatic 31, 3) := by decide +kernel
theorem own_d_method_2_72 : decode method_2_code 72 = .ok (.areturn, 1) := by decide +kernel
theorem own_d_method_2_73 : decode method_2_code 73 = .ok (.iload_n 0, 1) := by decide +kernel
theorem own_d_method_2_74 : decode method_2_code 74 = .ok (.bipush 8, 2) := by decide +kernel
theorem own_d_method_2_76 : decode method_2_code 76 = .ok (.if_icmp .ne 7, 3) := by decide +kernel
theorem own_d_method_2_79 : decode method_2_code 79 = .ok (.getstatic 34, 3) := by decide +kernel
theorem own_d_method_2_82 : decode method_2_code 82 = .ok (.areturn, 1) := by decide +kernel
theorem own_d_method_2_83 : decode method_2_code 83 = .ok (.getstatic 37, 3) := by decide +kernel
theorem own_d_method_2_86 : decode method_2_code 86 = .ok (.areturn, 1) := by decide +kernel
def Q_pick (Z : State) (i : Int32) (a_MEDIA : Addr) (a_EMAIL : Addr) (a_DVD : Addr) (a_URI : Addr) (a_SD : Addr) (a_CD : Addr) (a_XDS_I_SUBMISSION : Addr) (a_MMC : Addr) (a_PAPER : Addr) (a_USB : Addr) (a_COMPACT_FLASH : Addr) (a_FILM : Addr) (h0 : Heap) (v_ : Option Value) (h : Heap) (L_ : List Loc) : Prop := v_ = some (.ref (own_pick i a_CD a_DVD a_USB a_EMAIL a_COMPACT_FLASH a_MMC a_SD a_URI a_FILM a_PAPER)) ∧ Fr Z.heap.size L_ ∧ (h = h0)
set_option maxRecDepth 65536 in
set_option maxHeartbeats 40000000 in
theorem rm_pick (l : Launch) (Z : State) (a0 : Array Value) (hw : ∀ d ∈ tables_1, d.before a0 Z = true) (ws : List Jvm.Cond) (i : Int32) (a_MEDIA : Addr) (a_EMAIL : Addr) (a_DVD : Addr) (a_URI : Addr) (a_SD : Addr) (a_CD : Addr) (a_XDS_I_SUBMISSION : Addr) (a_MMC : Addr) (a_PAPER : Addr) (a_USB : Addr) (a_COMPACT_FLASH : Addr) (a_FILM : Addr) (h0 : Heap) (O : Ext Z.heap h0) (w : own_W Z a_MEDIA a_EMAIL a_DVD a_URI a_SD a_CD a_XDS_I_SUBMISSION a_MMC a_PAPER a_USB a_COMPACT_FLASH a_FILM) :
    MetFree l (⟨"com/example/trailcaster/trailcaster/model/ExportTriggerTakesPinLaw", "mediaOf", "(I)Lcom/example/trailcaster/trailcaster/model/MediaType;"⟩ : MethodName) (head1 (Jvm.Cond.code (⟨"com/example/trailcaster/trailcaster/model/ExportTriggerTakesPinLaw", "mediaOf", "(I)Lcom/example/trailcaster/trailcaster/model/MediaType;"⟩ : MethodName) method_2_code 1 (some (.object "com/example/trailcaster/trailcaster/model/MediaType")) :: ws) ({ frames := 0, cells := 0, slots := 0, locals := 0 } : Room)) (fun a_ U_ => a_ = #[(.int i)] ∧ Z.Warmed39 U_.vm ∧ U_.heap = h0) (fun _ _ _ _ _ => True) (fun _ U_ o_ U2_ => ∃ v_ L_, o_ = .returned v_ ∧ Q_pick Z i a_MEDIA a_EMAIL a_DVD a_URI a_SD a_CD a_XDS_I_SUBMISSION a_MMC a_PAPER a_USB a_COMPACT_FLASH a_FILM h0 v_ U2_.heap L_ ∧ FrameEnd U_ o_ U2_ L_ ({ frames := 0, cells := 0, slots := 0, locals := 0 } : Room).cells ({ frames := 0, cells := 0, slots := 0, locals := 0 } : Room).slots) := by
  refine MetFree.of_bodySF (plainFor_of_name own_pn0) hisR ?_
  intro p e s m args below meth c s₁ Bd hml0 hP hK
  obtain ⟨rfl, hZ, hh⟩ := hP
  have hx := Bd.exec
  have hby := Bd.bytes
  have hml : c.maxLocals = 1 := hml0
  have hown : s.vm.findClass "com/example/trailcaster/trailcaster/model/ExportTriggerTakesPinLaw" = some m.cls := findClass_of_methodNamed Bd.named
  have hnm := (name_of_methodNamed Bd.named Bd.method).1
  have X0 : Stand p l e ({ frames := 0, cells := 0, slots := 0, locals := 0 } : Room) s m #[(.int i)] below meth c s₁ [] 0 0 := Stand.of_body Bd
  have e0 : s₁.heap = h0 := by rw [← hh, Bd.state]; rfl
  have N0 := Fr.nil Z.heap.size
  show own_G p e below (fun o_ s₂ => ∃ v_ L_, o_ = .returned v_ ∧ Q_pick Z i a_MEDIA a_EMAIL a_DVD a_URI a_SD a_CD a_XDS_I_SUBMISSION a_MMC a_PAPER a_USB a_COMPACT_FLASH a_FILM h0 v_ s₂.heap L_ ∧ FrameEnd s o_ s₂ L_ ({ frames := 0, cells := 0, slots := 0, locals := 0 } : Room).cells ({ frames := 0, cells := 0, slots := 0, locals := 0 } : Room).slots) (s₁.setTop (entryFrame m #[(.int i)] 1))
  refine own_go (s₁.setTop (mkF m 0 #[.val (.int i)] [])) (fun t_ k_ => castTop (own_ef_pick m i) k_) ?_
  have w' := w
  obtain ⟨S_MEDIA, X_MEDIA, S_EMAIL, X_EMAIL, S_DVD, X_DVD, S_URI, X_URI, S_SD, X_SD, S_CD, X_CD, S_XDS_I_SUBMISSION, X_XDS_I_SUBMISSION, S_MMC, X_MMC, S_PAPER, X_PAPER, S_USB, X_USB, S_COMPACT_FLASH, X_COMPACT_FLASH, S_FILM, X_FILM, F_MEDIA_overNetworkOnly, F_DVD_ordinal, F_EMAIL_ordinal, F_URI_ordinal, F_SD_ordinal, F_CD_ordinal, F_XDS_I_SUBMISSION_overNetworkOnly, F_EMAIL_overNetwork, F_MMC_ordinal, F_CD_overNetwork, F_DVD_overNetwork, F_PAPER_ordinal, F_PAPER_overNetwork, F_USB_ordinal, F_USB_overNetwork, F_URI_overNetwork, F_COMPACT_FLASH_ordinal, F_MMC_overNetwork, F_COMPACT_FLASH_overNetwork, F_SD_overNetwork, F_FILM_ordinal, F_FILM_overNetwork⟩ := w'
  refine own_go (s₁.setTop (mkF m 1 #[.val (.int i)] [(.int i)])) (fun t_ k_ => XS.iloadN X0.here hx rfl (hb hby own_d_method_2_0) rfl k_) ?_
  by_cases hc1_1 : i = (0 : Int32)
  ·
    refine own_go (s₁.setTop (mkF m 4 #[.val (.int i)] [])) (fun t_ k_ => XS.ifNo X0.here hx rfl (hb hby own_d_method_2_1) rfl ((if0 _ _).trans (teq hc1_1).2) k_) ?_
    obtain ⟨T2, X2, e2, st2⟩ := getS2 X0 hx hZ hown (host := "") (Or.inl (hw _ (List.mem_of_getElem? (i := 24) rfl))) Via.refl e0 (S_CD.ext O) (g := (mkF m 4 #[.val (.int i)] [])) rfl (hb hby own_d_method_2_4)
    refine own_go (T2.setTop (mkF m 7 #[.val (.int i)] [(.ref a_CD)])) (fun t_ k_ => st2 _ k_) ?_
    obtain ⟨fs, hr, hrun, hended, hW, hsame⟩ := X2.leave (v := some (.ref a_CD)) (fun h => by rw [Bd.returns] at h; cases h)
    refine ⟨_, _, Jvm.RoadKit.retOut X2 hx Bd.returns rfl (Or.inr (Or.inr (Or.inr (Or.inr ⟨rfl, rfl, rfl⟩)))) (hb hby own_d_method_2_7) hr, hrun, hended, _, _, rfl, ?_, ⟨_, rfl⟩, hW, hsame.mono (by decide) (by decide)⟩
    show Q_pick Z i a_MEDIA a_EMAIL a_DVD a_URI a_SD a_CD a_XDS_I_SUBMISSION a_MMC a_PAPER a_USB a_COMPACT_FLASH a_FILM h0 _ T2.heap _
    exact ⟨by simp [own_pick, hc1_1], N0, e2⟩
  ·
    refine own_go (s₁.setTop (mkF m 8 #[.val (.int i)] [])) (fun t_ k_ => XS.ifYes X0.here hx rfl (pc0 := 1) (pc' := 8) rfl (hb hby own_d_method_2_1) rfl ((if0 _ _).trans (feq hc1_1).2) (by decide) (by decide) k_) ?_
    refine own_go (s₁.setTop (mkF m 9 #[.val (.int i)] [(.int i)])) (fun t_ k_ => XS.iloadN X0.here hx rfl (hb hby own_d_method_2_8) rfl k_) ?_
    refine own_go (s₁.setTop (mkF m 10 #[.val (.int i)] [(.int (1 : Int32)), (.int i)])) (fun t_ k_ => XS.iconst X0.here hx rfl (hb hby own_d_method_2_9) k_) ?_
    by_cases hc10_3 : i = (1 : Int32)
    ·
      refine own_go (s₁.setTop (mkF m 13 #[.val (.int i)] [])) (fun t_ k_ => XS.icmpNo X0.here hx rfl (hb hby own_d_method_2_10) rfl (teq hc10_3).2 k_) ?_
      obtain ⟨T4, X4, e4, st4⟩ := getS2 X0 hx hZ hown (host := "") (Or.inl (hw _ (List.mem_of_getElem? (i := 18) rfl))) Via.refl e0 (S_DVD.ext O) (g := (mkF m 13 #[.val (.int i)] [])) rfl (hb hby own_d_method_2_13)
      refine own_go (T4.setTop (mkF m 16 #[.val (.int i)] [(.ref a_DVD)])) (fun t_ k_ => st4 _ k_) ?_
      obtain ⟨fs, hr, hrun, hended, hW, hsame⟩ := X4.leave (v := some (.ref a_DVD)) (fun h => by rw [Bd.returns] at h; cases h)
      refine ⟨_, _, Jvm.RoadKit.retOut X4 hx Bd.returns rfl (Or.inr (Or.inr (Or.inr (Or.inr ⟨rfl, rfl, rfl⟩)))) (hb hby own_d_method_2_16) hr, hrun, hended, _, _, rfl, ?_, ⟨_, rfl⟩, hW, hsame.mono (by decide) (by decide)⟩
      show Q_pick Z i a_MEDIA a_EMAIL a_DVD a_URI a_SD a_CD a_XDS_I_SUBMISSION a_MMC a_PAPER a_USB a_COMPACT_FLASH a_FILM h0 _ T4.heap _
      exact ⟨by simp [own_pick, hc1_1, hc10_3], N0, e4⟩
    ·
      refine own_go (s₁.setTop (mkF m 17 #[.val (.int i)] [])) (fun t_ k_ => XS.icmpYes X0.here hx rfl (pc0 := 10) (pc' := 17) rfl (hb hby own_d_method_2_10) rfl (feq hc10_3).2 (by decide) (by decide) k_) ?_
      refine own_go (s₁.setTop (mkF m 18 #[.val (.int i)] [(.int i)])) (fun t_ k_ => XS.iloadN X0.here hx rfl (hb hby own_d_method_2_17) rfl k_) ?_
      refine own_go (s₁.setTop (mkF m 19 #[.val (.int i)] [(.int (2 : Int32)), (.int i)])) (fun t_ k_ => XS.iconst X0.here hx rfl (hb hby own_d_method_2_18) k_) ?_
      by_cases hc19_5 : i = (2 : Int32)
      ·
        refine own_go (s₁.setTop (mkF m 22 #[.val (.int i)] [])) (fun t_ k_ => XS.icmpNo X0.here hx rfl (hb hby own_d_method_2_19) rfl (teq hc19_5).2 k_) ?_
        obtain ⟨T6, X6, e6, st6⟩ := getS2 X0 hx hZ hown (host := "") (Or.inl (hw _ (List.mem_of_getElem? (i := 39) rfl))) Via.refl e0 (S_USB.ext O) (g := (mkF m 22 #[.val (.int i)] [])) rfl (hb hby own_d_method_2_22)
        refine own_go (T6.setTop (mkF m 25 #[.val (.int i)] [(.ref a_USB)])) (fun t_ k_ => st6 _ k_) ?_
        obtain ⟨fs, hr, hrun, hended, hW, hsame⟩ := X6.leave (v := some (.ref a_USB)) (fun h => by rw [Bd.returns] at h; cases h)
        refine ⟨_, _, Jvm.RoadKit.retOut X6 hx Bd.returns rfl (Or.inr (Or.inr (Or.inr (Or.inr ⟨rfl, rfl, rfl⟩)))) (hb hby own_d_method_2_25) hr, hrun, hended, _, _, rfl, ?_, ⟨_, rfl⟩, hW, hsame.mono (by decide) (by decide)⟩
        show Q_pick Z i a_MEDIA a_EMAIL a_DVD a_URI a_SD a_CD a_XDS_I_SUBMISSION a_MMC a_PAPER a_USB a_COMPACT_FLASH a_FILM h0 _ T6.heap _
        exact ⟨by simp [own_pick, hc1_1, hc10_3, hc19_5], N0, e6⟩
      ·
        refine own_go (s₁.setTop (mkF m 26 #[.val (.int i)] [])) (fun t_ k_ => XS.icmpYes X0.here hx rfl (pc0 := 19) (pc' := 26) rfl (hb hby own_d_method_2_19) rfl (feq hc19_5).2 (by decide) (by decide) k_) ?_
        refine own_go (s₁.setTop (mkF m 27 #[.val (.int i)] [(.int i)])) (fun t_ k_ => XS.iloadN X0.here hx rfl (hb hby own_d_method_2_26) rfl k_) ?_
        refine own_go (s₁.setTop (mkF m 28 #[.val (.int i)] [(.int (3 : Int32)), (.int i)])) (fun t_ k_ => XS.iconst X0.here hx rfl (hb hby own_d_method_2_27) k_) ?_
        by_cases hc28_7 : i = (3 : Int32)
        ·
          refine own_go (s₁.setTop (mkF m 31 #[.val (.int i)] [])) (fun t_ k_ => XS.icmpNo X0.here hx rfl (hb hby own_d_method_2_28) rfl (teq hc28_7).2 k_) ?_
          obtain ⟨T8, X8, e8, st8⟩ := getS2 X0 hx hZ hown (host := "") (Or.inl (hw _ (List.mem_of_getElem? (i := 8) rfl))) Via.refl e0 (S_EMAIL.ext O) (g := (mkF m 31 #[.val (.int i)] [])) rfl (hb hby own_d_method_2_31)
          refine own_go (T8.setTop (mkF m 34 #[.val (.int i)] [(.ref a_EMAIL)])) (fun t_ k_ => st8 _ k_) ?_
          obtain ⟨fs, hr, hrun, hended, hW, hsame⟩ := X8.leave (v := some (.ref a_EMAIL)) (fun h => by rw [Bd.returns] at h; cases h)
          refine ⟨_, _, Jvm.RoadKit.retOut X8 hx Bd.returns rfl (Or.inr (Or.inr (Or.inr (Or.inr ⟨rfl, rfl, rfl⟩)))) (hb hby own_d_method_2_34) hr, hrun, hended, _, _, rfl, ?_, ⟨_, rfl⟩, hW, hsame.mono (by decide) (by decide)⟩
          show Q_pick Z i a_MEDIA a_EMAIL a_DVD a_URI a_SD a_CD a_XDS_I_SUBMISSION a_MMC a_PAPER a_USB a_COMPACT_FLASH a_FILM h0 _ T8.heap _
          exact ⟨by simp [own_pick, hc1_1, hc10_3, hc19_5, hc28_7], N0, e8⟩
        ·
          refine own_go (s₁.setTop (mkF m 35 #[.val (.int i)] [])) (fun t_ k_ => XS.icmpYes X0.here hx rfl (pc0 := 28) (pc' := 35) rfl (hb hby own_d_method_2_28) rfl (feq hc28_7).2 (by decide) (by decide) k_) ?_
          refine own_go (s₁.setTop (mkF m 36 #[.val (.int i)] [(.int i)])) (fun t_ k_ => XS.iloadN X0.here hx rfl (hb hby own_d_method_2_35) rfl k_) ?_
          refine own_go (s₁.setTop (mkF m 37 #[.val (.int i)] [(.int (4 : Int32)), (.int i)])) (fun t_ k_ => XS.iconst X0.here hx rfl (hb hby own_d_method_2_36) k_) ?_
          by_cases hc37_9 : i = (4 : Int32)
          ·
            refine own_go (s₁.setTop (mkF m 40 #[.val (.int i)] [])) (fun t_ k_ => XS.icmpNo X0.here hx rfl (hb hby own_d_method_2_37) rfl (teq hc37_9).2 k_) ?_
            obtain ⟨T10, X10, e10, st10⟩ := getS2 X0 hx hZ hown (host := "") (Or.inl (hw _ (List.mem_of_getElem? (i := 41) rfl))) Via.refl e0 (S_COMPACT_FLASH.ext O) (g := (mkF m 40 #[.val (.int i)] [])) rfl (hb hby own_d_method_2_40)
            refine own_go (T10.setTop (mkF m 43 #[.val (.int i)] [(.ref a_COMPACT_FLASH)])) (fun t_ k_ => st10 _ k_) ?_
            obtain ⟨fs, hr, hrun, hended, hW, hsame⟩ := X10.leave (v := some (.ref a_COMPACT_FLASH)) (fun h => by rw [Bd.returns] at h; cases h)
            refine ⟨_, _, Jvm.RoadKit.retOut X10 hx Bd.returns rfl (Or.inr (Or.inr (Or.inr (Or.inr ⟨rfl, rfl, rfl⟩)))) (hb hby own_d_method_2_43) hr, hrun, hended, _, _, rfl, ?_, ⟨_, rfl⟩, hW, hsame.mono (by decide) (by decide)⟩
            show Q_pick Z i a_MEDIA a_EMAIL a_DVD a_URI a_SD a_CD a_XDS_I_SUBMISSION a_MMC a_PAPER a_USB a_COMPACT_FLASH a_FILM h0 _ T10.heap _
            exact ⟨by simp [own_pick, hc1_1, hc10_3, hc19_5, hc28_7, hc37_9], N0, e10⟩
          ·
            refine own_go (s₁.setTop (mkF m 44 #[.val (.int i)] [])) (fun t_ k_ => XS.icmpYes X0.here hx rfl (pc0 := 37) (pc' := 44) rfl (hb hby own_d_method_2_37) rfl (feq hc37_9).2 (by decide) (by decide) k_) ?_
            refine own_go (s₁.setTop (mkF m 45 #[.val (.int i)] [(.int i)])) (fun t_ k_ => XS.iloadN X0.here hx rfl (hb hby own_d_method_2_44) rfl k_) ?_
            refine own_go (s₁.setTop (mkF m 46 #[.val (.int i)] [(.int (5 : Int32)), (.int i)])) (fun t_ k_ => XS.iconst X0.here hx rfl (hb hby own_d_method_2_45) k_) ?_
            by_cases hc46_11 : i = (5 : Int32)
            ·
              refine own_go (s₁.setTop (mkF m 49 #[.val (.int i)] [])) (fun t_ k_ => XS.icmpNo X0.here hx rfl (hb hby own_d_method_2_46) rfl (teq hc46_11).2 k_) ?_
              obtain ⟨T12, X12, e12, st12⟩ := getS2 X0 hx hZ hown (host := "") (Or.inl (hw _ (List.mem_of_getElem? (i := 35) rfl))) Via.refl e0 (S_MMC.ext O) (g := (mkF m 49 #[.val (.int i)] [])) rfl (hb hby own_d_method_2_49)
              refine own_go (T12.setTop (mkF m 52 #[.val (.int i)] [(.ref a_MMC)])) (fun t_ k_ => st12 _ k_) ?_
              obtain ⟨fs, hr, hrun, hended, hW, hsame⟩ := X12.leave (v := some (.ref a_MMC)) (fun h => by rw [Bd.returns] at h; cases h)
              refine ⟨_, _, Jvm.RoadKit.retOut X12 hx Bd.returns rfl (Or.inr (Or.inr (Or.inr (Or.inr ⟨rfl, rfl, rfl⟩)))) (hb hby own_d_method_2_52) hr, hrun, hended, _, _, rfl, ?_, ⟨_, rfl⟩, hW, hsame.mono (by decide) (by decide)⟩
              show Q_pick Z i a_MEDIA a_EMAIL a_DVD a_URI a_SD a_CD a_XDS_I_SUBMISSION a_MMC a_PAPER a_USB a_COMPACT_FLASH a_FILM h0 _ T12.heap _
              exact ⟨by simp [own_pick, hc1_1, hc10_3, hc19_5, hc28_7, hc37_9, hc46_11], N0, e12⟩
            ·
              refine own_go (s₁.setTop (mkF m 53 #[.val (.int i)] [])) (fun t_ k_ => XS.icmpYes X0.here hx rfl (pc0 := 46) (pc' := 53) rfl (hb hby own_d_method_2_46) rfl (feq hc46_11).2 (by decide) (by decide) k_) ?_
              refine own_go (s₁.setTop (mkF m 54 #[.val (.int i)] [(.int i)])) (fun t_ k_ => XS.iloadN X0.here hx rfl (hb hby own_d_method_2_53) rfl k_) ?_
              refine own_go (s₁.setTop (mkF m 56 #[.val (.int i)] [(.int (6 : Int32)), (.int i)])) (fun t_ k_ => XS.bipush X0.here hx rfl (hb hby own_d_method_2_54) k_) ?_
              by_cases hc56_13 : i = (6 : Int32)
              ·
                refine own_go (s₁.setTop (mkF m 59 #[.val (.int i)] [])) (fun t_ k_ => XS.icmpNo X0.here hx rfl (hb hby own_d_method_2_56) rfl (teq hc56_13).2 k_) ?_
                obtain ⟨T14, X14, e14, st14⟩ := getS2 X0 hx hZ hown (host := "") (Or.inl (hw _ (List.mem_of_getElem? (i := 22) rfl))) Via.refl e0 (S_SD.ext O) (g := (mkF m 59 #[.val (.int i)] [])) rfl (hb hby own_d_method_2_59)
                refine own_go (T14.setTop (mkF m 62 #[.val (.int i)] [(.ref a_SD)])) (fun t_ k_ => st14 _ k_) ?_
                obtain ⟨fs, hr, hrun, hended, hW, hsame⟩ := X14.leave (v := some (.ref a_SD)) (fun h => by rw [Bd.returns] at h; cases h)
                refine ⟨_, _, Jvm.RoadKit.retOut X14 hx Bd.returns rfl (Or.inr (Or.inr (Or.inr (Or.inr ⟨rfl, rfl, rfl⟩)))) (hb hby own_d_method_2_62) hr, hrun, hended, _, _, rfl, ?_, ⟨_, rfl⟩, hW, hsame.mono (by decide) (by decide)⟩
                show Q_pick Z i a_MEDIA a_EMAIL a_DVD a_URI a_SD a_CD a_XDS_I_SUBMISSION a_MMC a_PAPER a_USB a_COMPACT_FLASH a_FILM h0 _ T14.heap _
                exact ⟨by simp [own_pick, hc1_1, hc10_3, hc19_5, hc28_7, hc37_9, hc46_11, hc56_13], N0, e14⟩
              ·
                refine own_go (s₁.setTop (mkF m 63 #[.val (.int i)] [])) (fun t_ k_ => XS.icmpYes X0.here hx rfl (pc0 := 56) (pc' := 63) rfl (hb hby own_d_method_2_56) rfl (feq hc56_13).2 (by decide) (by decide) k_) ?_
                refine own_go (s₁.setTop (mkF m 64 #[.val (.int i)] [(.int i)])) (fun t_ k_ => XS.iloadN X0.here hx rfl (hb hby own_d_method_2_63) rfl k_) ?_
                refine own_go (s₁.setTop (mkF m 66 #[.val (.int i)] [(.int (7 : Int32)), (.int i)])) (fun t_ k_ => XS.bipush X0.here hx rfl (hb hby own_d_method_2_64) k_) ?_
                by_cases hc66_15 : i = (7 : Int32)
                ·
                  refine own_go (s₁.setTop (mkF m 69 #[.val (.int i)] [])) (fun t_ k_ => XS.icmpNo X0.here hx rfl (hb hby own_d_method_2_66) rfl (teq hc66_15).2 k_) ?_
                  obtain ⟨T16, X16, e16, st16⟩ := getS2 X0 hx hZ hown (host := "") (Or.inl (hw _ (List.mem_of_getElem? (i := 20) rfl))) Via.refl e0 (S_URI.ext O) (g := (mkF m 69 #[.val (.int i)] [])) rfl (hb hby own_d_method_2_69)
                  refine own_go (T16.setTop (mkF m 72 #[.val (.int i)] [(.ref a_URI)])) (fun t_ k_ => st16 _ k_) ?_
                  obtain ⟨fs, hr, hrun, hended, hW, hsame⟩ := X16.leave (v := some (.ref a_URI)) (fun h => by rw [Bd.returns] at h; cases h)
                  refine ⟨_, _, Jvm.RoadKit.retOut X16 hx Bd.returns rfl (Or.inr (Or.inr (Or.inr (Or.inr ⟨rfl, rfl, rfl⟩)))) (hb hby own_d_method_2_72) hr, hrun, hended, _, _, rfl, ?_, ⟨_, rfl⟩, hW, hsame.mono (by decide) (by decide)⟩
                  show Q_pick Z i a_MEDIA a_EMAIL a_DVD a_URI a_SD a_CD a_XDS_I_SUBMISSION a_MMC a_PAPER a_USB a_COMPACT_FLASH a_FILM h0 _ T16.heap _
                  exact ⟨by simp [own_pick, hc1_1, hc10_3, hc19_5, hc28_7, hc37_9, hc46_11, hc56_13, hc66_15], N0, e16⟩
                ·
                  refine own_go (s₁.setTop (mkF m 73 #[.val (.int i)] [])) (fun t_ k_ => XS.icmpYes X0.here hx rfl (pc0 := 66) (pc' := 73) rfl (hb hby own_d_method_2_66) rfl (feq hc66_15).2 (by decide) (by decide) k_) ?_
                  refine own_go (s₁.setTop (mkF m 74 #[.val (.int i)] [(.int i)])) (fun t_ k_ => XS.iloadN X0.here hx rfl (hb hby own_d_method_2_73) rfl k_) ?_
                  refine own_go (s₁.setTop (mkF m 76 #[.val (.int i)] [(.int (8 : Int32)), (.int i)])) (fun t_ k_ => XS.bipush X0.here hx rfl (hb hby own_d_method_2_74) k_) ?_
                  by_cases hc76_17 : i = (8 : Int32)
                  ·
                    refine own_go (s₁.setTop (mkF m 79 #[.val (.int i)] [])) (fun t_ k_ => XS.icmpNo X0.here hx rfl (hb hby own_d_method_2_76) rfl (teq hc76_17).2 k_) ?_
                    obtain ⟨T18, X18, e18, st18⟩ := getS2 X0 hx hZ hown (host := "") (Or.inl (hw _ (List.mem_of_getElem? (i := 43) rfl))) Via.refl e0 (S_FILM.ext O) (g := (mkF m 79 #[.val (.int i)] [])) rfl (hb hby own_d_method_2_79)
                    refine own_go (T18.setTop (mkF m 82 #[.val (.int i)] [(.ref a_FILM)])) (fun t_ k_ => st18 _ k_) ?_
                    obtain ⟨fs, hr, hrun, hended, hW, hsame⟩ := X18.leave (v := some (.ref a_FILM)) (fun h => by rw [Bd.returns] at h; cases h)
                    refine ⟨_, _, Jvm.RoadKit.retOut X18 hx Bd.returns rfl (Or.inr (Or.inr (Or.inr (Or.inr ⟨rfl, rfl, rfl⟩)))) (hb hby own_d_method_2_82) hr, hrun, hended, _, _, rfl, ?_, ⟨_, rfl⟩, hW, hsame.mono (by decide) (by decide)⟩
                    show Q_pick Z i a_MEDIA a_EMAIL a_DVD a_URI a_SD a_CD a_XDS_I_SUBMISSION a_MMC a_PAPER a_USB a_COMPACT_FLASH a_FILM h0 _ T18.heap _
                    exact ⟨by simp [own_pick, hc1_1, hc10_3, hc19_5, hc28_7, hc37_9, hc46_11, hc56_13, hc66_15, hc76_17], N0, e18⟩
                  ·
                    refine own_go (s₁.setTop (mkF m 83 #[.val (.int i)] [])) (fun t_ k_ => XS.icmpYes X0.here hx rfl (pc0 := 76) (pc' := 83) rfl (hb hby own_d_method_2_76) rfl (feq hc76_17).2 (by decide) (by decide) k_) ?_
                    obtain ⟨T19, X19, e19, st19⟩ := getS2 X0 hx hZ hown (host := "") (Or.inl (hw _ (List.mem_of_getElem? (i := 37) rfl))) Via.refl e0 (S_PAPER.ext O) (g := (mkF m 83 #[.val (.int i)] [])) rfl (hb hby own_d_method_2_83)
                    refine own_go (T19.setTop (mkF m 86 #[.val (.int i)] [(.ref a_PAPER)])) (fun t_ k_ => st19 _ k_) ?_
                    obtain ⟨fs, hr, hrun, hended, hW, hsame⟩ := X19.leave (v := some (.ref a_PAPER)) (fun h => by rw [Bd.returns] at h; cases h)
                    refine ⟨_, _, Jvm.RoadKit.retOut X19 hx Bd.returns rfl (Or.inr (Or.inr (Or.inr (Or.inr ⟨rfl, rfl, rfl⟩)))) (hb hby own_d_method_2_86) hr, hrun, hended, _, _, rfl, ?_, ⟨_, rfl⟩, hW, hsame.mono (by decide) (by decide)⟩
                    show Q_pick Z i a_MEDIA a_EMAIL a_DVD a_URI a_SD a_CD a_XDS_I_SUBMISSION a_MMC a_PAPER a_USB a_COMPACT_FLASH a_FILM h0 _ T19.heap _
                    exact ⟨by simp [own_pick, hc1_1, hc10_3, hc19_5, hc28_7, hc37_9, hc46_11, hc56_13, hc66_15, hc76_17], N0, e19⟩
theorem own_pn1 : plainName "com/example/trailcaster/trailcaster/model/MediaType" = true := by first | (simp [plainName, overriddenIn]; done) | decide +kernel
theorem own_ef_on (m : MethodId) (a : Addr) : entryFrame m #[(.ref a)] 1 = mkF m 0 #[.val (.ref a)] [] := by first | (simp [entryFrame, mkF, argsToLocals, Value.category]; done) | rfl
theorem own_d_prog_63_method_6_0 : decode prog_63_method_6_code 0 = .ok (.aload_n 0, 1) := by decide +kernel
theorem own_d_prog_63_method_6_1 : decode prog_63_method_6_code 1 = .ok (.getfield 68, 3) := by decide +kernel
theorem own_d_prog_63_method_6_4 : decode prog_63_method_6_code 4 = .ok (.ireturn, 1) := by decide +kernel
def Q_on (Z : State) (a : Addr) (n : Int32) (h0 : Heap) (v_ : Option Value) (h : Heap) (L_ : List Loc) : Prop := v_ = some (.int n) ∧ Fr Z.heap.size L_ ∧ (h = h0)
set_option maxRecDepth 65536 in
set_option maxHeartbeats 40000000 in
theorem rm_on (l : Launch) (Z : State) (a0 : Array Value) (hw : ∀ d ∈ tables_1, d.before a0 Z = true) (ws : List Jvm.Cond) (a : Addr) (n : Int32) (h0 : Heap) (O : Ext Z.heap h0) (F : Fld Z Z.heap a "com/example/trailcaster/trailcaster/model/MediaType" "overNetwork" "Z" (.int n)) (hn : nar .boolean n = n) :
    MetFree l (⟨"com/example/trailcaster/trailcaster/model/MediaType", "overNetwork", "()Z"⟩ : MethodName) (head1 (Jvm.Cond.code (⟨"com/example/trailcaster/trailcaster/model/MediaType", "overNetwork", "()Z"⟩ : MethodName) prog_63_method_6_code 1 (some .boolean) :: ws) ({ frames := 0, cells := 0, slots := 0, locals := 0 } : Room)) (fun a_ U_ => a_ = #[(.ref a)] ∧ Z.Warmed39 U_.vm ∧ U_.heap = h0) (fun _ _ _ _ _ => True) (fun _ U_ o_ U2_ => ∃ v_ L_, o_ = .returned v_ ∧ Q_on Z a n h0 v_ U2_.heap L_ ∧ FrameEnd U_ o_ U2_ L_ ({ frames := 0, cells := 0, slots := 0, locals := 0 } : Room).cells ({ frames := 0, cells := 0, slots := 0, locals := 0 } : Room).slots) := by
  refine MetFree.of_bodySF (plainFor_of_name own_pn1) hisR ?_
  intro p e s m args below meth c s₁ Bd hml0 hP hK
  obtain ⟨rfl, hZ, hh⟩ := hP
  have hx := Bd.exec
  have hby := Bd.bytes
  have hml : c.maxLocals = 1 := hml0
  have hown : s.vm.findClass "com/example/trailcaster/trailcaster/model/MediaType" = some m.cls := findClass_of_methodNamed Bd.named
  have hnm := (name_of_methodNamed Bd.named Bd.method).1
  have X0 : Stand p l e ({ frames := 0, cells := 0, slots := 0, locals := 0 } : Room) s m #[(.ref a)] below meth c s₁ [] 0 0 := Stand.of_body Bd
  have e0 : s₁.heap = h0 := by rw [← hh, Bd.state]; rfl
  have N0 := Fr.nil Z.heap.size
  show own_G p e below (fun o_ s₂ => ∃ v_ L_, o_ = .returned v_ ∧ Q_on Z a n h0 v_ s₂.heap L_ ∧ FrameEnd s o_ s₂ L_ ({ frames := 0, cells := 0, slots := 0, locals := 0 } : Room).cells ({ frames := 0, cells := 0, slots := 0, locals := 0 } : Room).slots) (s₁.setTop (entryFrame m #[(.ref a)] 1))
  refine own_go (s₁.setTop (mkF m 0 #[.val (.ref a)] [])) (fun t_ k_ => castTop (own_ef_on m a) k_) ?_
  refine own_go (s₁.setTop (mkF m 1 #[.val (.ref a)] [(.ref a)])) (fun t_ k_ => XS.aloadN X0.here hx rfl (hb hby own_d_prog_63_method_6_0) rfl rfl k_) ?_
  obtain ⟨T1, X1, e1, st1⟩ := getF X0 hx hZ hown (host := "") (Or.inl (hw _ (List.mem_of_getElem? (i := 33) rfl))) Via.refl e0 (F.ext O) (g := (mkF m 1 #[.val (.ref a)] [(.ref a)])) rfl rfl (hb hby own_d_prog_63_method_6_1)
  refine own_go (T1.setTop (mkF m 4 #[.val (.ref a)] [(.int n)])) (fun t_ k_ => st1 _ k_) ?_
  obtain ⟨fs, hr, hrun, hended, hW, hsame⟩ := X1.leave (v := some (.int (nar .boolean n))) (fun h => by rw [Bd.returns] at h; cases h)
  refine ⟨_, _, retN X1 hx (t := .boolean) Bd.returns (by simp) (hb hby own_d_prog_63_method_6_4) hr, hrun, hended, _, _, rfl, ?_, ⟨_, rfl⟩, hW, hsame.mono (by decide) (by decide)⟩
  show Q_on Z a n h0 _ T1.heap _
  exact ⟨by rw [hn], N0, e1⟩
theorem own_pn2 : plainName "com/example/trailcaster/trailcaster/model/ExportTrigger" = true := by first | (simp [plainName, overriddenIn]; done) | decide +kernel
theorem own_ef_tk (m : MethodId) (a : Addr) (b : Addr) : entryFrame m #[(.ref a), (.ref b)] 2 = mkF m 0 #[.val (.ref a), .val (.ref b)] [] := by first | (simp [entryFrame, mkF, argsToLocals, Value.category]; done) | rfl
theorem own_d_prog_54_method_5_0 : decode prog_54_method_5_code 0 = .ok (.aload_n 0, 1) := by decide +kernel
theorem own_d_prog_54_method_5_1 : decode prog_54_method_5_code 1 = .ok (.getfield 33, 3) := by decide +kernel
theorem own_d_prog_54_method_5_4 : decode prog_54_method_5_code 4 = .ok (.ifCond .eq 10, 3) := by decide +kernel
theorem own_d_prog_54_method_5_14 : decode prog_54_method_5_code 14 = .ok (.iconst 1, 1) := by decide +kernel
theorem own_d_prog_54_method_5_15 : decode prog_54_method_5_code 15 = .ok (.goto 4, 3) := by decide +kernel
theorem own_d_prog_54_method_5_19 : decode prog_54_method_5_code 19 = .ok (.ireturn, 1) := by decide +kernel
theorem own_d_prog_54_method_5_7 : decode prog_54_method_5_code 7 = .ok (.aload_n 1, 1) := by decide +kernel
theorem own_d_prog_54_method_5_8 : decode prog_54_method_5_code 8 = .ok (.invokevirtual 37, 3) := by decide +kernel
theorem own_pd0 : parseMethodDescriptor "()Z" = some ⟨[], some .boolean⟩ := by decide +kernel
theorem own_d_prog_54_method_5_11 : decode prog_54_method_5_code 11 = .ok (.ifCond .eq 7, 3) := by decide +kernel
theorem own_d_prog_54_method_5_18 : decode prog_54_method_5_code 18 = .ok (.iconst 0, 1) := by decide +kernel
def Q_tk (Z : State) (a : Addr) (b : Addr) (n : Int32) (f : Int32) (h0 : Heap) (v_ : Option Value) (h : Heap) (L_ : List Loc) : Prop := v_ = some (.int (if f = 0 then 1 else if n = 0 then 0 else 1)) ∧ Fr Z.heap.size L_ ∧ (h = h0)
set_option maxRecDepth 65536 in
set_option maxHeartbeats 40000000 in
theorem rm_tk (l : Launch) (Z : State) (a0 : Array Value) (hw : ∀ d ∈ tables_1, d.before a0 Z = true) (ws : List Jvm.Cond) (a : Addr) (b : Addr) (n : Int32) (f : Int32) (h0 : Heap) (O : Ext Z.heap h0) (Fa : Fld Z Z.heap a "com/example/trailcaster/trailcaster/model/ExportTrigger" "overNetworkOnly" "Z" (.int f)) (Fb : Fld Z Z.heap b "com/example/trailcaster/trailcaster/model/MediaType" "overNetwork" "Z" (.int n)) (Xb : Exa Z Z.heap b "com/example/trailcaster/trailcaster/model/MediaType") (hn : nar .boolean n = n) :
    MetFree l (⟨"com/example/trailcaster/trailcaster/model/ExportTrigger", "takes", "(Lcom/example/trailcaster/trailcaster/model/MediaType;)Z"⟩ : MethodName) (head1 (Jvm.Cond.code (⟨"com/example/trailcaster/trailcaster/model/ExportTrigger", "takes", "(Lcom/example/trailcaster/trailcaster/model/MediaType;)Z"⟩ : MethodName) prog_54_method_5_code 2 (some .boolean) :: ws) ({ frames := 1, cells := 0, slots := 0, locals := 12 } : Room)) (fun a_ U_ => a_ = #[(.ref a), (.ref b)] ∧ Z.Warmed39 U_.vm ∧ U_.heap = h0) (fun _ _ _ _ _ => True) (fun _ U_ o_ U2_ => ∃ v_ L_, o_ = .returned v_ ∧ Q_tk Z a b n f h0 v_ U2_.heap L_ ∧ FrameEnd U_ o_ U2_ L_ ({ frames := 1, cells := 0, slots := 0, locals := 12 } : Room).cells ({ frames := 1, cells := 0, slots := 0, locals := 12 } : Room).slots) := by
  refine MetFree.of_bodySF (plainFor_of_name own_pn2) hisR ?_
  intro p e s m args below meth c s₁ Bd hml0 hP hK
  obtain ⟨rfl, hZ, hh⟩ := hP
  have hx := Bd.exec
  have hby := Bd.bytes
  have hml : c.maxLocals = 2 := hml0
  have hown : s.vm.findClass "com/example/trailcaster/trailcaster/model/ExportTrigger" = some m.cls := findClass_of_methodNamed Bd.named
  have hnm := (name_of_methodNamed Bd.named Bd.method).1
  have X0 : Stand p l e ({ frames := 1, cells := 0, slots := 0, locals := 12 } : Room) s m #[(.ref a), (.ref b)] below meth c s₁ [] 0 0 := Stand.of_body Bd
  have e0 : s₁.heap = h0 := by rw [← hh, Bd.state]; rfl
  have N0 := Fr.nil Z.heap.size
  show own_G p e below (fun o_ s₂ => ∃ v_ L_, o_ = .returned v_ ∧ Q_tk Z a b n f h0 v_ s₂.heap L_ ∧ FrameEnd s o_ s₂ L_ ({ frames := 1, cells := 0, slots := 0, locals := 12 } : Room).cells ({ frames := 1, cells := 0, slots := 0, locals := 12 } : Room).slots) (s₁.setTop (entryFrame m #[(.ref a), (.ref b)] 2))
  refine own_go (s₁.setTop (mkF m 0 #[.val (.ref a), .val (.ref b)] [])) (fun t_ k_ => castTop (own_ef_tk m a b) k_) ?_
  refine own_go (s₁.setTop (mkF m 1 #[.val (.ref a), .val (.ref b)] [(.ref a)])) (fun t_ k_ => XS.aloadN X0.here hx rfl (hb hby own_d_prog_54_method_5_0) rfl rfl k_) ?_
  obtain ⟨T1, X1, e1, st1⟩ := getF X0 hx hZ hown (host := "") (Or.inl (hw _ (List.mem_of_getElem? (i := 16) rfl))) Via.refl e0 (Fa.ext O) (g := (mkF m 1 #[.val (.ref a), .val (.ref b)] [(.ref a)])) rfl rfl (hb hby own_d_prog_54_method_5_1)
  refine own_go (T1.setTop (mkF m 4 #[.val (.ref a), .val (.ref b)] [(.int f)])) (fun t_ k_ => st1 _ k_) ?_
  by_cases hc4_2 : f = (0 : Int32)
  ·
    refine own_go (T1.setTop (mkF m 14 #[.val (.ref a), .val (.ref b)] [])) (fun t_ k_ => XS.ifYes X1.here hx rfl (pc0 := 4) (pc' := 14) rfl (hb hby own_d_prog_54_method_5_4) rfl ((if0 _ _).trans (teq hc4_2).1) (by decide) (by decide) k_) ?_
    refine own_go (T1.setTop (mkF m 15 #[.val (.ref a), .val (.ref b)] [(.int (1 : Int32))])) (fun t_ k_ => XS.iconst X1.here hx rfl (hb hby own_d_prog_54_method_5_14) k_) ?_
    refine own_go (T1.setTop (mkF m 19 #[.val (.ref a), .val (.ref b)] [(.int (1 : Int32))])) (fun t_ k_ => XS.goto X1.here hx rfl (pc0 := 15) (pc' := 19) rfl (hb hby own_d_prog_54_method_5_15) (by decide) (by decide) k_) ?_
    obtain ⟨fs, hr, hrun, hended, hW, hsame⟩ := X1.leave (v := some (.int (nar .boolean (1 : Int32)))) (fun h => by rw [Bd.returns] at h; cases h)
    refine ⟨_, _, retN X1 hx (t := .boolean) Bd.returns (by simp) (hb hby own_d_prog_54_method_5_19) hr, hrun, hended, _, _, rfl, ?_, ⟨_, rfl⟩, hW, hsame.mono (by decide) (by decide)⟩
    show Q_tk Z a b n f h0 _ T1.heap _
    exact ⟨by first | (simp [hc4_2]; done) | (simp [hc4_2]; rfl), N0, e1⟩
  ·
    refine own_go (T1.setTop (mkF m 7 #[.val (.ref a), .val (.ref b)] [])) (fun t_ k_ => XS.ifNo X1.here hx rfl (hb hby own_d_prog_54_method_5_4) rfl ((if0 _ _).trans (feq hc4_2).1) k_) ?_
    refine own_go (T1.setTop (mkF m 8 #[.val (.ref a), .val (.ref b)] [(.ref b)])) (fun t_ k_ => XS.aloadN X1.here hx rfl (hb hby own_d_prog_54_method_5_7) rfl rfl k_) ?_
    obtain ⟨cq3, kq3, q3a, q3b, q3c⟩ := isOf hZ e1 (Xb.ext O)
    obtain ⟨_, _, ⟨T3, Lu3, ku3, nu3⟩, -, X3, ⟨Lc3, hQ3, lu3, yu3, zu3⟩, st3⟩ := X1.virtualBack hx (y := (⟨"com/example/trailcaster/trailcaster/model/MediaType", "overNetwork", "()Z"⟩ : MethodName)) (z := (⟨"com/example/trailcaster/trailcaster/model/MediaType", "overNetwork", "()Z"⟩ : MethodName)) hown (mvT hZ (hw _ (List.mem_of_getElem? (i := 28) rfl))) (mvT hZ (hw _ (List.mem_of_getElem? (i := 29) rfl))) (notFace_of_selects (args := #[]) (mvT hZ (hw _ (List.mem_of_getElem? (i := 31) rfl)))) (mvT hZ (hw _ (List.mem_of_getElem? (i := 31) rfl))) (mvT hZ (hw _ (List.mem_of_getElem? (i := 30) rfl))) (by decide) (backOf (W := 0) (rm_on l Z a0 hw [] (b) (n) h0 O Fb hn) hZ (hw _ (List.mem_of_getElem? (i := 32) rfl)) (hw _ (List.mem_of_getElem? (i := 9) rfl)) (by decide) (by decide)) q3a q3c (g := (mkF m 8 #[.val (.ref a), .val (.ref b)] [(.ref b)])) rfl (by rw [hml]; rfl) (Steps.refl _) (argsL := []) (rest := []) (lenOf own_pd0 rfl) rfl (by show 2 * 0 + _ ≤ _; exact Nat.le_of_eq rfl) (hb hby own_d_prog_54_method_5_8) (fun _ _ => ⟨rfl, e1, (by decide : 0 + 0 ≤ _), (by decide : 0 + 0 ≤ _)⟩)
    dsimp only [Pt.U, Pt.locs, Pt.cells, Pt.slots] at X3 lu3 yu3 zu3 st3 hQ3
    subst lu3 yu3 zu3
    obtain ⟨rfl, N3q, e3⟩ := hQ3
    have N3 := Fr.app N0 N3q
    refine own_go (T3.setTop (mkF m 11 #[.val (.ref a), .val (.ref b)] [(.int n)])) (fun t_ k_ => st3.trans k_) ?_
    by_cases hc11_4 : n = (0 : Int32)
    ·
      refine own_go (T3.setTop (mkF m 18 #[.val (.ref a), .val (.ref b)] [])) (fun t_ k_ => XS.ifYes X3.here hx rfl (pc0 := 11) (pc' := 18) rfl (hb hby own_d_prog_54_method_5_11) rfl ((if0 _ _).trans (teq hc11_4).1) (by decide) (by decide) k_) ?_
      refine own_go (T3.setTop (mkF m 19 #[.val (.ref a), .val (.ref b)] [(.int (0 : Int32))])) (fun t_ k_ => XS.iconst X3.here hx rfl (hb hby own_d_prog_54_method_5_18) k_) ?_
      obtain ⟨fs, hr, hrun, hended, hW, hsame⟩ := X3.leave (v := some (.int (nar .boolean (0 : Int32)))) (fun h => by rw [Bd.returns] at h; cases h)
      refine ⟨_, _, retN X3 hx (t := .boolean) Bd.returns (by simp) (hb hby own_d_prog_54_method_5_19) hr, hrun, hended, _, _, rfl, ?_, ⟨_, rfl⟩, hW, hsame.mono (by decide) (by decide)⟩
      show Q_tk Z a b n f h0 _ T3.heap _
      exact ⟨by first | (simp [hc4_2, hc11_4]; done) | (simp [hc4_2, hc11_4]; rfl), N3, e3⟩
    ·
      refine own_go (T3.setTop (mkF m 14 #[.val (.ref a), .val (.ref b)] [])) (fun t_ k_ => XS.ifNo X3.here hx rfl (hb hby own_d_prog_54_method_5_11) rfl ((if0 _ _).trans (feq hc11_4).1) k_) ?_
      refine own_go (T3.setTop (mkF m 15 #[.val (.ref a), .val (.ref b)] [(.int (1 : Int32))])) (fun t_ k_ => XS.iconst X3.here hx rfl (hb hby own_d_prog_54_method_5_14) k_) ?_
      refine own_go (T3.setTop (mkF m 19 #[.val (.ref a), .val (.ref b)] [(.int (1 : Int32))])) (fun t_ k_ => XS.goto X3.here hx rfl (pc0 := 15) (pc' := 19) rfl (hb hby own_d_prog_54_method_5_15) (by decide) (by decide) k_) ?_
      obtain ⟨fs, hr, hrun, hended, hW, hsame⟩ := X3.leave (v := some (.int (nar .boolean (1 : Int32)))) (fun h => by rw [Bd.returns] at h; cases h)
      refine ⟨_, _, retN X3 hx (t := .boolean) Bd.returns (by simp) (hb hby own_d_prog_54_method_5_19) hr, hrun, hended, _, _, rfl, ?_, ⟨_, rfl⟩, hW, hsame.mono (by decide) (by decide)⟩
      show Q_tk Z a b n f h0 _ T3.heap _
      exact ⟨by first | (simp [hc4_2, hc11_4]; done) | (simp [hc4_2, hc11_4]; rfl), N3, e3⟩
theorem own_ef_law (m : MethodId) (p0 : Int32) (p1 : Int32) : entryFrame m #[(.int p0), (.int p1)] maxLocals = mkF m 0 #[.val (.int p0), .val (.int p1), .unset, .unset, .unset, .unset, .unset, .unset] [] := by first | (simp [entryFrame, mkF, argsToLocals, Value.category, maxLocals]; done) | rfl
theorem own_pd1 : parseMethodDescriptor "(I)Lcom/example/trailcaster/trailcaster/model/MediaType;" = some ⟨[.int], some (.object "com/example/trailcaster/trailcaster/model/MediaType")⟩ := by decide +kernel
theorem own_pd2 : parseMethodDescriptor "(Lcom/example/trailcaster/trailcaster/model/MediaType;)Z" = some ⟨[(.object "com/example/trailcaster/trailcaster/model/MediaType")], some .boolean⟩ := by decide +kernel
def Q_law (Z : State) (p0 : Int32) (p1 : Int32) (a_MEDIA : Addr) (a_EMAIL : Addr) (a_DVD : Addr) (a_URI : Addr) (a_SD : Addr) (a_CD : Addr) (a_XDS_I_SUBMISSION : Addr) (a_MMC : Addr) (a_PAPER : Addr) (a_USB : Addr) (a_COMPACT_FLASH : Addr) (a_FILM : Addr) (h0 : Heap) (v_ : Option Value) (h : Heap) (L_ : List Loc) : Prop := v_ = some (.int 1) ∧ Fr Z.heap.size L_ ∧ (True)
set_option maxRecDepth 65536 in
set_option maxHeartbeats 40000000 in
theorem rm_law (l : Launch) (Z : State) (a0 : Array Value) (hw : ∀ d ∈ tables_1, d.before a0 Z = true) (ws : List Jvm.Cond) (p0 : Int32) (p1 : Int32) (a_MEDIA : Addr) (a_EMAIL : Addr) (a_DVD : Addr) (a_URI : Addr) (a_SD : Addr) (a_CD : Addr) (a_XDS_I_SUBMISSION : Addr) (a_MMC : Addr) (a_PAPER : Addr) (a_USB : Addr) (a_COMPACT_FLASH : Addr) (a_FILM : Addr) (h0 : Heap) (O : Ext Z.heap h0) (w : own_W Z a_MEDIA a_EMAIL a_DVD a_URI a_SD a_CD a_XDS_I_SUBMISSION a_MMC a_PAPER a_USB a_COMPACT_FLASH a_FILM) :
    MetFree l x (head1 (Jvm.Cond.code x code maxLocals ret :: ws) room_1) (fun a_ U_ => a_ = #[(.int p0), (.int p1)] ∧ Z.Warmed39 U_.vm ∧ U_.heap = h0) (fun _ _ _ _ _ => True) (fun _ U_ o_ U2_ => ∃ v_ L_, o_ = .returned v_ ∧ Q_law Z p0 p1 a_MEDIA a_EMAIL a_DVD a_URI a_SD a_CD a_XDS_I_SUBMISSION a_MMC a_PAPER a_USB a_COMPACT_FLASH a_FILM h0 v_ U2_.heap L_ ∧ FrameEnd U_ o_ U2_ L_ room_1.cells room_1.slots) := by
  refine MetFree.of_bodySF (plainFor_of_name own_pn0) hisR ?_
  intro p e s m args below meth c s₁ Bd hml0 hP hK
  obtain ⟨rfl, hZ, hh⟩ := hP
  have hx := Bd.exec
  have hby := Bd.bytes
  have hml : c.maxLocals = 8 := hml0
  have hown : s.vm.findClass "com/example/trailcaster/trailcaster/model/ExportTriggerTakesPinLaw" = some m.cls := findClass_of_methodNamed Bd.named
  have hnm := (name_of_methodNamed Bd.named Bd.method).1
  have X0 : Stand p l e room_1 s m #[(.int p0), (.int p1)] below meth c s₁ [] 0 0 := Stand.of_body Bd
  have e0 : s₁.heap = h0 := by rw [← hh, Bd.state]; rfl
  have N0 := Fr.nil Z.heap.size
  show own_G p e below (fun o_ s₂ => ∃ v_ L_, o_ = .returned v_ ∧ Q_law Z p0 p1 a_MEDIA a_EMAIL a_DVD a_URI a_SD a_CD a_XDS_I_SUBMISSION a_MMC a_PAPER a_USB a_COMPACT_FLASH a_FILM h0 v_ s₂.heap L_ ∧ FrameEnd s o_ s₂ L_ room_1.cells room_1.slots) (s₁.setTop (entryFrame m #[(.int p0), (.int p1)] maxLocals))
  refine own_go (s₁.setTop (mkF m 0 #[.val (.int p0), .val (.int p1), .unset, .unset, .unset, .unset, .unset, .unset] [])) (fun t_ k_ => castTop (own_ef_law m p0 p1) k_) ?_
  have w' := w
  obtain ⟨S_MEDIA, X_MEDIA, S_EMAIL, X_EMAIL, S_DVD, X_DVD, S_URI, X_URI, S_SD, X_SD, S_CD, X_CD, S_XDS_I_SUBMISSION, X_XDS_I_SUBMISSION, S_MMC, X_MMC, S_PAPER, X_PAPER, S_USB, X_USB, S_COMPACT_FLASH, X_COMPACT_FLASH, S_FILM, X_FILM, F_MEDIA_overNetworkOnly, F_DVD_ordinal, F_EMAIL_ordinal, F_URI_ordinal, F_SD_ordinal, F_CD_ordinal, F_XDS_I_SUBMISSION_overNetworkOnly, F_EMAIL_overNetwork, F_MMC_ordinal, F_CD_overNetwork, F_DVD_overNetwork, F_PAPER_ordinal, F_PAPER_overNetwork, F_USB_ordinal, F_USB_overNetwork, F_URI_overNetwork, F_COMPACT_FLASH_ordinal, F_MMC_overNetwork, F_COMPACT_FLASH_overNetwork, F_SD_overNetwork, F_FILM_ordinal, F_FILM_overNetwork⟩ := w'
  refine own_go (s₁.setTop (mkF m 1 #[.val (.int p0), .val (.int p1), .unset, .unset, .unset, .unset, .unset, .unset] [(.int p0)])) (fun t_ k_ => XS.iloadN X0.here hx rfl (hb hby at_0) rfl k_) ?_
  refine own_go (s₁.setTop (mkF m 2 #[.val (.int p0), .val (.int p1), .unset, .unset, .unset, .unset, .unset, .unset] [(.int (1 : Int32)), (.int p0)])) (fun t_ k_ => XS.iconst X0.here hx rfl (hb hby at_1) k_) ?_
  refine own_go (s₁.setTop (mkF m 3 #[.val (.int p0), .val (.int p1), .unset, .unset, .unset, .unset, .unset, .unset] [(.int (p0 &&& (1 : Int32)))])) (fun t_ k_ => XS.iand X0.here hx rfl (hb hby at_2) rfl k_) ?_
  by_cases hc3_1 : (p0 &&& (1 : Int32)) = (0 : Int32)
  ·
    refine own_go (s₁.setTop (mkF m 10 #[.val (.int p0), .val (.int p1), .unset, .unset, .unset, .unset, .unset, .unset] [])) (fun t_ k_ => XS.ifYes X0.here hx rfl (pc0 := 3) (pc' := 10) rfl (hb hby at_3) rfl ((if0 _ _).trans (teq hc3_1).1) (by decide) (by decide) k_) ?_
    refine own_go (s₁.setTop (mkF m 11 #[.val (.int p0), .val (.int p1), .unset, .unset, .unset, .unset, .unset, .unset] [(.int (0 : Int32))])) (fun t_ k_ => XS.iconst X0.here hx rfl (hb hby at_10) k_) ?_
    refine own_go (s₁.setTop (mkF m 12 #[.val (.int p0), .val (.int p1), .val (.int (0 : Int32)), .unset, .unset, .unset, .unset, .unset] [])) (fun t_ k_ => XS.istoreN X0.here hx rfl (hb hby at_11) rfl (l' := #[.val (.int p0), .val (.int p1), .val (.int (0 : Int32)), .unset, .unset, .unset, .unset, .unset]) rfl k_) ?_
    refine own_go (s₁.setTop (mkF m 13 #[.val (.int p0), .val (.int p1), .val (.int (0 : Int32)), .unset, .unset, .unset, .unset, .unset] [(.int (0 : Int32))])) (fun t_ k_ => XS.iloadN X0.here hx rfl (hb hby at_12) rfl k_) ?_
    refine own_go (s₁.setTop (mkF m 22 #[.val (.int p0), .val (.int p1), .val (.int (0 : Int32)), .unset, .unset, .unset, .unset, .unset] [])) (fun t_ k_ => XS.ifYes X0.here hx rfl (pc0 := 13) (pc' := 22) rfl (hb hby at_13) rfl ((if0 _ _).trans (teq (by decide : (0 : Int32) = (0 : Int32))).1) (by decide) (by decide) k_) ?_
    obtain ⟨T2, X2, e2, st2⟩ := getS2 X0 hx hZ hown (host := "") (Or.inl (hw _ (List.mem_of_getElem? (i := 0) rfl))) Via.refl e0 (S_MEDIA.ext O) (g := (mkF m 22 #[.val (.int p0), .val (.int p1), .val (.int (0 : Int32)), .unset, .unset, .unset, .unset, .unset] [])) rfl (hb hby at_22)
    refine own_go (T2.setTop (mkF m 25 #[.val (.int p0), .val (.int p1), .val (.int (0 : Int32)), .unset, .unset, .unset, .unset, .unset] [(.ref a_MEDIA)])) (fun t_ k_ => st2 _ k_) ?_
    refine own_go (T2.setTop (mkF m 26 #[.val (.int p0), .val (.int p1), .val (.int (0 : Int32)), .val (.ref a_MEDIA), .unset, .unset, .unset, .unset] [])) (fun t_ k_ => XS.astoreN X2.here hx rfl (hb hby at_25) rfl rfl (l' := #[.val (.int p0), .val (.int p1), .val (.int (0 : Int32)), .val (.ref a_MEDIA), .unset, .unset, .unset, .unset]) rfl k_) ?_
    refine own_go (T2.setTop (mkF m 27 #[.val (.int p0), .val (.int p1), .val (.int (0 : Int32)), .val (.ref a_MEDIA), .unset, .unset, .unset, .unset] [(.int p1)])) (fun t_ k_ => XS.iloadN X2.here hx rfl (hb hby at_26) rfl k_) ?_
    refine own_go (T2.setTop (mkF m 29 #[.val (.int p0), .val (.int p1), .val (.int (0 : Int32)), .val (.ref a_MEDIA), .unset, .unset, .unset, .unset] [(.int (2147483647 : Int32)), (.int p1)])) (fun t_ k_ => X2.ldcInt hx hown (mvT hZ (hw _ (List.mem_of_getElem? (i := 3) rfl))) (g := (mkF m 27 #[.val (.int p0), .val (.int p1), .val (.int (0 : Int32)), .val (.ref a_MEDIA), .unset, .unset, .unset, .unset] [(.int p1)])) rfl (hb hby at_27) _ k_) ?_
    refine own_go (T2.setTop (mkF m 30 #[.val (.int p0), .val (.int p1), .val (.int (0 : Int32)), .val (.ref a_MEDIA), .unset, .unset, .unset, .unset] [(.int (p1 &&& (2147483647 : Int32)))])) (fun t_ k_ => XS.iand X2.here hx rfl (hb hby at_29) rfl k_) ?_
    refine own_go (T2.setTop (mkF m 32 #[.val (.int p0), .val (.int p1), .val (.int (0 : Int32)), .val (.ref a_MEDIA), .unset, .unset, .unset, .unset] [(.int (10 : Int32)), (.int (p1 &&& (2147483647 : Int32)))])) (fun t_ k_ => XS.bipush X2.here hx rfl (hb hby at_30) k_) ?_
    refine own_go (T2.setTop (mkF m 33 #[.val (.int p0), .val (.int p1), .val (.int (0 : Int32)), .val (.ref a_MEDIA), .unset, .unset, .unset, .unset] [(.int ((p1 &&& (2147483647 : Int32)) % (10 : Int32)))])) (fun t_ k_ => Jvm.RoadKit.iremM X2 hx rfl (hb hby at_32) rfl (by decide) k_) ?_
    refine own_go (T2.setTop (mkF m 35 #[.val (.int p0), .val (.int p1), .val (.int (0 : Int32)), .val (.ref a_MEDIA), .val (.int ((p1 &&& (2147483647 : Int32)) % (10 : Int32))), .unset, .unset, .unset] [])) (fun t_ k_ => XS.istore X2.here hx rfl (hb hby at_33) rfl (l' := #[.val (.int p0), .val (.int p1), .val (.int (0 : Int32)), .val (.ref a_MEDIA), .val (.int ((p1 &&& (2147483647 : Int32)) % (10 : Int32))), .unset, .unset, .unset]) rfl k_) ?_
    obtain ⟨hi0, hi1⟩ := own_mod p1 10 (by decide)
    obtain ⟨i, hi⟩ : ∃ z, z = ((p1 &&& (2147483647 : Int32)) % (10 : Int32)) := ⟨_, rfl⟩
    rw [← hi] at hi0 hi1
    rw [← hi]
    have ho := own_pick_ord i w hi0 hi1
    have hnet := own_pick_net i w hi0 hi1
    have hxo := own_pick_exa i w
    obtain ⟨o, hoo⟩ : ∃ z, z = own_pick i a_CD a_DVD a_USB a_EMAIL a_COMPACT_FLASH a_MMC a_SD a_URI a_FILM a_PAPER := ⟨_, rfl⟩
    rw [← hoo] at ho hxo hnet
    refine own_go (T2.setTop (mkF m 37 #[.val (.int p0), .val (.int p1), .val (.int (0 : Int32)), .val (.ref a_MEDIA), .val (.int i), .unset, .unset, .unset] [(.int i)])) (fun t_ k_ => XS.iload X2.here hx rfl (hb hby at_35) rfl k_) ?_
    obtain ⟨_, _, ⟨T3, Lu3, ku3, nu3⟩, -, X3, ⟨Lc3, hQ3, lu3, yu3, zu3⟩, st3⟩ := Jvm.LawKit.callS X2 hx (y := (⟨"com/example/trailcaster/trailcaster/model/ExportTriggerTakesPinLaw", "mediaOf", "(I)Lcom/example/trailcaster/trailcaster/model/MediaType;"⟩ : MethodName)) hown (mvT hZ (hw _ (List.mem_of_getElem? (i := 4) rfl))) (mvT hZ (hw _ (List.mem_of_getElem? (i := 5) rfl))) (mvT hZ (hw _ (List.mem_of_getElem? (i := 6) rfl))) (mvT hZ (hw _ (List.mem_of_getElem? (i := 7) rfl))) (by decide) (backOf (W := 0) (rm_pick l Z a0 hw [] (i) (a_MEDIA) (a_EMAIL) (a_DVD) (a_URI) (a_SD) (a_CD) (a_XDS_I_SUBMISSION) (a_MMC) (a_PAPER) (a_USB) (a_COMPACT_FLASH) (a_FILM) h0 O w) hZ (hw _ (List.mem_of_getElem? (i := 7) rfl)) (hw _ (List.mem_of_getElem? (i := 6) rfl)) (by decide) (by decide)) (g := (mkF m 37 #[.val (.int p0), .val (.int p1), .val (.int (0 : Int32)), .val (.ref a_MEDIA), .val (.int i), .unset, .unset, .unset] [(.int i)])) rfl (by rw [hml]; rfl) (argsL := [(.int i)]) (rest := []) (lenOf own_pd1 rfl) rfl (by show 2 * 0 + _ ≤ _; exact Nat.le_of_eq rfl) (hb hby at_37) (fun _ _ => ⟨rfl, e2, (by decide : 0 + 0 ≤ _), (by decide : 0 + 0 ≤ _)⟩)
    dsimp only [Pt.U, Pt.locs, Pt.cells, Pt.slots] at X3 lu3 yu3 zu3 st3 hQ3
    subst lu3 yu3 zu3
    obtain ⟨rfl, N3q, e3⟩ := hQ3
    have N3 := Fr.app N0 N3q
    rw [← hoo] at st3
    refine own_go (T3.setTop (mkF m 40 #[.val (.int p0), .val (.int p1), .val (.int (0 : Int32)), .val (.ref a_MEDIA), .val (.int i), .unset, .unset, .unset] [(.ref o)])) (fun t_ k_ => st3 _ k_) ?_
    refine own_go (T3.setTop (mkF m 42 #[.val (.int p0), .val (.int p1), .val (.int (0 : Int32)), .val (.ref a_MEDIA), .val (.int i), .val (.ref o), .unset, .unset] [])) (fun t_ k_ => XS.astore X3.here hx rfl (hb hby at_40) rfl rfl (l' := #[.val (.int p0), .val (.int p1), .val (.int (0 : Int32)), .val (.ref a_MEDIA), .val (.int i), .val (.ref o), .unset, .unset]) rfl k_) ?_
    refine own_go (T3.setTop (mkF m 44 #[.val (.int p0), .val (.int p1), .val (.int (0 : Int32)), .val (.ref a_MEDIA), .val (.int i), .val (.ref o), .unset, .unset] [(.ref o)])) (fun t_ k_ => XS.aload X3.here hx rfl (hb hby at_42) rfl rfl k_) ?_
    obtain ⟨T4, X4, e4, st4⟩ := getS2 X3 hx hZ hown (host := "") (Or.inl (hw _ (List.mem_of_getElem? (i := 8) rfl))) Via.refl e3 (S_EMAIL.ext O) (g := (mkF m 44 #[.val (.int p0), .val (.int p1), .val (.int (0 : Int32)), .val (.ref a_MEDIA), .val (.int i), .val (.ref o), .unset, .unset] [(.ref o)])) rfl (hb hby at_44)
    refine own_go (T4.setTop (mkF m 47 #[.val (.int p0), .val (.int p1), .val (.int (0 : Int32)), .val (.ref a_MEDIA), .val (.int i), .val (.ref o), .unset, .unset] [(.ref a_EMAIL), (.ref o)])) (fun t_ k_ => st4 _ k_) ?_
    by_cases ha47_5 : o = a_EMAIL
    ·
      refine own_go (T4.setTop (mkF m 58 #[.val (.int p0), .val (.int p1), .val (.int (0 : Int32)), .val (.ref a_MEDIA), .val (.int i), .val (.ref o), .unset, .unset] [])) (fun t_ k_ => Jvm.RoadKit.acmp (g := (mkF m 47 #[.val (.int p0), .val (.int p1), .val (.int (0 : Int32)), .val (.ref a_MEDIA), .val (.int i), .val (.ref o), .unset, .unset] [(.ref a_EMAIL), (.ref o)])) X4 hx rfl rfl rfl (pc0 := 47) (pc' := 58) (same := true) rfl (hb hby at_47) rfl (decide_eq_true (congrArg Value.ref ha47_5)) (by decide) (by decide) k_) ?_
      refine own_go (T4.setTop (mkF m 59 #[.val (.int p0), .val (.int p1), .val (.int (0 : Int32)), .val (.ref a_MEDIA), .val (.int i), .val (.ref o), .unset, .unset] [(.int (1 : Int32))])) (fun t_ k_ => XS.iconst X4.here hx rfl (hb hby at_58) k_) ?_
      refine own_go (T4.setTop (mkF m 63 #[.val (.int p0), .val (.int p1), .val (.int (0 : Int32)), .val (.ref a_MEDIA), .val (.int i), .val (.ref o), .unset, .unset] [(.int (1 : Int32))])) (fun t_ k_ => XS.goto X4.here hx rfl (pc0 := 59) (pc' := 63) rfl (hb hby at_59) (by decide) (by decide) k_) ?_
      refine own_go (T4.setTop (mkF m 65 #[.val (.int p0), .val (.int p1), .val (.int (0 : Int32)), .val (.ref a_MEDIA), .val (.int i), .val (.ref o), .val (.int (1 : Int32)), .unset] [])) (fun t_ k_ => XS.istore X4.here hx rfl (hb hby at_63) rfl (l' := #[.val (.int p0), .val (.int p1), .val (.int (0 : Int32)), .val (.ref a_MEDIA), .val (.int i), .val (.ref o), .val (.int (1 : Int32)), .unset]) rfl k_) ?_
      refine own_go (T4.setTop (mkF m 66 #[.val (.int p0), .val (.int p1), .val (.int (0 : Int32)), .val (.ref a_MEDIA), .val (.int i), .val (.ref o), .val (.int (1 : Int32)), .unset] [(.int (0 : Int32))])) (fun t_ k_ => XS.iloadN X4.here hx rfl (hb hby at_65) rfl k_) ?_
      refine own_go (T4.setTop (mkF m 74 #[.val (.int p0), .val (.int p1), .val (.int (0 : Int32)), .val (.ref a_MEDIA), .val (.int i), .val (.ref o), .val (.int (1 : Int32)), .unset] [])) (fun t_ k_ => XS.ifYes X4.here hx rfl (pc0 := 66) (pc' := 74) rfl (hb hby at_66) rfl ((if0 _ _).trans (teq (by decide : (0 : Int32) = (0 : Int32))).1) (by decide) (by decide) k_) ?_
      refine own_go (T4.setTop (mkF m 75 #[.val (.int p0), .val (.int p1), .val (.int (0 : Int32)), .val (.ref a_MEDIA), .val (.int i), .val (.ref o), .val (.int (1 : Int32)), .unset] [(.int (1 : Int32))])) (fun t_ k_ => XS.iconst X4.here hx rfl (hb hby at_74) k_) ?_
      refine own_go (T4.setTop (mkF m 79 #[.val (.int p0), .val (.int p1), .val (.int (0 : Int32)), .val (.ref a_MEDIA), .val (.int i), .val (.ref o), .val (.int (1 : Int32)), .unset] [(.int (1 : Int32))])) (fun t_ k_ => XS.goto X4.here hx rfl (pc0 := 75) (pc' := 79) rfl (hb hby at_75) (by decide) (by decide) k_) ?_
      refine own_go (T4.setTop (mkF m 81 #[.val (.int p0), .val (.int p1), .val (.int (0 : Int32)), .val (.ref a_MEDIA), .val (.int i), .val (.ref o), .val (.int (1 : Int32)), .val (.int (1 : Int32))] [])) (fun t_ k_ => XS.istore X4.here hx rfl (hb hby at_79) rfl (l' := #[.val (.int p0), .val (.int p1), .val (.int (0 : Int32)), .val (.ref a_MEDIA), .val (.int i), .val (.ref o), .val (.int (1 : Int32)), .val (.int (1 : Int32))]) rfl k_) ?_
      refine own_go (T4.setTop (mkF m 82 #[.val (.int p0), .val (.int p1), .val (.int (0 : Int32)), .val (.ref a_MEDIA), .val (.int i), .val (.ref o), .val (.int (1 : Int32)), .val (.int (1 : Int32))] [(.ref a_MEDIA)])) (fun t_ k_ => XS.aloadN X4.here hx rfl (hb hby at_81) rfl rfl k_) ?_
      refine own_go (T4.setTop (mkF m 84 #[.val (.int p0), .val (.int p1), .val (.int (0 : Int32)), .val (.ref a_MEDIA), .val (.int i), .val (.ref o), .val (.int (1 : Int32)), .val (.int (1 : Int32))] [(.ref o), (.ref a_MEDIA)])) (fun t_ k_ => XS.aload X4.here hx rfl (hb hby at_82) rfl rfl k_) ?_
      obtain ⟨cq6, kq6, q6a, q6b, q6c⟩ := isOf hZ e4 (X_MEDIA.ext O)
      obtain ⟨_, _, ⟨T6, Lu6, ku6, nu6⟩, -, X6, ⟨Lc6, hQ6, lu6, yu6, zu6⟩, st6⟩ := X4.virtualBack hx (y := (⟨"com/example/trailcaster/trailcaster/model/ExportTrigger", "takes", "(Lcom/example/trailcaster/trailcaster/model/MediaType;)Z"⟩ : MethodName)) (z := (⟨"com/example/trailcaster/trailcaster/model/ExportTrigger", "takes", "(Lcom/example/trailcaster/trailcaster/model/MediaType;)Z"⟩ : MethodName)) hown (mvT hZ (hw _ (List.mem_of_getElem? (i := 11) rfl))) (mvT hZ (hw _ (List.mem_of_getElem? (i := 12) rfl))) (notFace_of_selects (args := #[]) (mvT hZ (hw _ (List.mem_of_getElem? (i := 14) rfl)))) (mvT hZ (hw _ (List.mem_of_getElem? (i := 14) rfl))) (mvT hZ (hw _ (List.mem_of_getElem? (i := 13) rfl))) (by decide) (backOf (W := 0) (rm_tk l Z a0 hw [] (a_MEDIA) (o) (own_net i) ((0 : Int32)) h0 O F_MEDIA_overNetworkOnly hnet hxo (own_net01 i)) hZ (hw _ (List.mem_of_getElem? (i := 15) rfl)) (hw _ (List.mem_of_getElem? (i := 1) rfl)) (by decide) (by decide)) q6a q6c (g := (mkF m 84 #[.val (.int p0), .val (.int p1), .val (.int (0 : Int32)), .val (.ref a_MEDIA), .val (.int i), .val (.ref o), .val (.int (1 : Int32)), .val (.int (1 : Int32))] [(.ref o), (.ref a_MEDIA)])) rfl (by rw [hml]; rfl) (Steps.refl _) (argsL := [(.ref o)]) (rest := []) (lenOf own_pd2 rfl) rfl (by show 2 * 0 + _ ≤ _; exact Nat.le_of_eq rfl) (hb hby at_84) (fun _ _ => ⟨rfl, e4, (by decide : 0 + 0 ≤ _), (by decide : 0 + 0 ≤ _)⟩)
      dsimp only [Pt.U, Pt.locs, Pt.cells, Pt.slots] at X6 lu6 yu6 zu6 st6 hQ6
      subst lu6 yu6 zu6
      obtain ⟨rfl, N6q, e6⟩ := hQ6
      have N6 := Fr.app N3 N6q
      refine own_go (T6.setTop (mkF m 87 #[.val (.int p0), .val (.int p1), .val (.int (0 : Int32)), .val (.ref a_MEDIA), .val (.int i), .val (.ref o), .val (.int (1 : Int32)), .val (.int (1 : Int32))] [(.int (if (0 : Int32) = 0 then 1 else if own_net i = 0 then 0 else 1))])) (fun t_ k_ => st6.trans k_) ?_
      refine own_go (T6.setTop (mkF m 89 #[.val (.int p0), .val (.int p1), .val (.int (0 : Int32)), .val (.ref a_MEDIA), .val (.int i), .val (.ref o), .val (.int (1 : Int32)), .val (.int (1 : Int32))] [(.int (1 : Int32)), (.int (if (0 : Int32) = 0 then 1 else if own_net i = 0 then 0 else 1))])) (fun t_ k_ => XS.iload X6.here hx rfl (hb hby at_87) rfl k_) ?_
      have k3 : i = 3 ↔ o = a_EMAIL := ⟨fun q => by rw [hoo, q]; rfl, fun q => Decidable.byContradiction fun r => Fld.ne ho F_EMAIL_ordinal (by simpa using r) q⟩
      have k7 : i = 7 ↔ o = a_URI := ⟨fun q => by rw [hoo, q]; rfl, fun q => Decidable.byContradiction fun r => Fld.ne ho F_URI_ordinal (by simpa using r) q⟩
      have hfin : (if (0 : Int32) = 0 then 1 else if own_net i = 0 then 0 else 1) = (1 : Int32) := by simp [own_net, k3, k7, ha47_5]
      refine own_go (T6.setTop (mkF m 92 #[.val (.int p0), .val (.int p1), .val (.int (0 : Int32)), .val (.ref a_MEDIA), .val (.int i), .val (.ref o), .val (.int (1 : Int32)), .val (.int (1 : Int32))] [])) (fun t_ k_ => XS.icmpNo X6.here hx rfl (hb hby at_89) rfl (teq hfin).2 k_) ?_
      refine own_go (T6.setTop (mkF m 93 #[.val (.int p0), .val (.int p1), .val (.int (0 : Int32)), .val (.ref a_MEDIA), .val (.int i), .val (.ref o), .val (.int (1 : Int32)), .val (.int (1 : Int32))] [(.int (1 : Int32))])) (fun t_ k_ => XS.iconst X6.here hx rfl (hb hby at_92) k_) ?_
      refine own_go (T6.setTop (mkF m 97 #[.val (.int p0), .val (.int p1), .val (.int (0 : Int32)), .val (.ref a_MEDIA), .val (.int i), .val (.ref o), .val (.int (1 : Int32)), .val (.int (1 : Int32))] [(.int (1 : Int32))])) (fun t_ k_ => XS.goto X6.here hx rfl (pc0 := 93) (pc' := 97) rfl (hb hby at_93) (by decide) (by decide) k_) ?_
      obtain ⟨fs, hr, hrun, hended, hW, hsame⟩ := X6.leave (v := some (.int (nar .boolean (1 : Int32)))) (fun h => by rw [Bd.returns] at h; cases h)
      refine ⟨_, _, retN X6 hx (t := .boolean) Bd.returns (by simp) (hb hby at_97) hr, hrun, hended, _, _, rfl, ?_, ⟨_, rfl⟩, hW, hsame.mono (by decide) (by decide)⟩
      show Q_law Z p0 p1 a_MEDIA a_EMAIL a_DVD a_URI a_SD a_CD a_XDS_I_SUBMISSION a_MMC a_PAPER a_USB a_COMPACT_FLASH a_FILM h0 _ T6.heap _
      exact ⟨rfl, N6, trivial⟩
    ·
      refine own_go (T4.setTop (mkF m 50 #[.val (.int p0), .val (.int p1), .val (.int (0 : Int32)), .val (.ref a_MEDIA), .val (.int i), .val (.ref o), .unset, .unset] [])) (fun t_ k_ => Jvm.RoadKit.acmp (g := (mkF m 47 #[.val (.int p0), .val (.int p1), .val (.int (0 : Int32)), .val (.ref a_MEDIA), .val (.int i), .val (.ref o), .unset, .unset] [(.ref a_EMAIL), (.ref o)])) X4 hx rfl rfl rfl (pc0 := 47) (pc' := 50) (same := false) rfl (hb hby at_47) rfl (decide_eq_false fun q => ha47_5 (Value.ref.inj q)) (by decide) (by decide) k_) ?_
      refine own_go (T4.setTop (mkF m 52 #[.val (.int p0), .val (.int p1), .val (.int (0 : Int32)), .val (.ref a_MEDIA), .val (.int i), .val (.ref o), .unset, .unset] [(.ref o)])) (fun t_ k_ => XS.aload X4.here hx rfl (hb hby at_50) rfl rfl k_) ?_
      obtain ⟨T7, X7, e7, st7⟩ := getS2 X4 hx hZ hown (host := "") (Or.inl (hw _ (List.mem_of_getElem? (i := 20) rfl))) Via.refl e4 (S_URI.ext O) (g := (mkF m 52 #[.val (.int p0), .val (.int p1), .val (.int (0 : Int32)), .val (.ref a_MEDIA), .val (.int i), .val (.ref o), .unset, .unset] [(.ref o)])) rfl (hb hby at_52)
      refine own_go (T7.setTop (mkF m 55 #[.val (.int p0), .val (.int p1), .val (.int (0 : Int32)), .val (.ref a_MEDIA), .val (.int i), .val (.ref o), .unset, .unset] [(.ref a_URI), (.ref o)])) (fun t_ k_ => st7 _ k_) ?_
      by_cases ha55_8 : o = a_URI
      ·
        refine own_go (T7.setTop (mkF m 58 #[.val (.int p0), .val (.int p1), .val (.int (0 : Int32)), .val (.ref a_MEDIA), .val (.int i), .val (.ref o), .unset, .unset] [])) (fun t_ k_ => Jvm.RoadKit.acmp (g := (mkF m 55 #[.val (.int p0), .val (.int p1), .val (.int (0 : Int32)), .val (.ref a_MEDIA), .val (.int i), .val (.ref o), .unset, .unset] [(.ref a_URI), (.ref o)])) X7 hx rfl rfl rfl (pc0 := 55) (pc' := 58) (same := true) rfl (hb hby at_55) rfl (decide_eq_true (congrArg Value.ref ha55_8)) (by decide) (by decide) k_) ?_
        refine own_go (T7.setTop (mkF m 59 #[.val (.int p0), .val (.int p1), .val (.int (0 : Int32)), .val (.ref a_MEDIA), .val (.int i), .val (.ref o), .unset, .unset] [(.int (1 : Int32))])) (fun t_ k_ => XS.iconst X7.here hx rfl (hb hby at_58) k_) ?_
        refine own_go (T7.setTop (mkF m 63 #[.val (.int p0), .val (.int p1), .val (.int (0 : Int32)), .val (.ref a_MEDIA), .val (.int i), .val (.ref o), .unset, .unset] [(.int (1 : Int32))])) (fun t_ k_ => XS.goto X7.here hx rfl (pc0 := 59) (pc' := 63) rfl (hb hby at_59) (by decide) (by decide) k_) ?_
        refine own_go (T7.setTop (mkF m 65 #[.val (.int p0), .val (.int p1), .val (.int (0 : Int32)), .val (.ref a_MEDIA), .val (.int i), .val (.ref o), .val (.int (1 : Int32)), .unset] [])) (fun t_ k_ => XS.istore X7.here hx rfl (hb hby at_63) rfl (l' := #[.val (.int p0), .val (.int p1), .val (.int (0 : Int32)), .val (.ref a_MEDIA), .val (.int i), .val (.ref o), .val (.int (1 : Int32)), .unset]) rfl k_) ?_
        refine own_go (T7.setTop (mkF m 66 #[.val (.int p0), .val (.int p1), .val (.int (0 : Int32)), .val (.ref a_MEDIA), .val (.int i), .val (.ref o), .val (.int (1 : Int32)), .unset] [(.int (0 : Int32))])) (fun t_ k_ => XS.iloadN X7.here hx rfl (hb hby at_65) rfl k_) ?_
        refine own_go (T7.setTop (mkF m 74 #[.val (.int p0), .val (.int p1), .val (.int (0 : Int32)), .val (.ref a_MEDIA), .val (.int i), .val (.ref o), .val (.int (1 : Int32)), .unset] [])) (fun t_ k_ => XS.ifYes X7.here hx rfl (pc0 := 66) (pc' := 74) rfl (hb hby at_66) rfl ((if0 _ _).trans (teq (by decide : (0 : Int32) = (0 : Int32))).1) (by decide) (by decide) k_) ?_
        refine own_go (T7.setTop (mkF m 75 #[.val (.int p0), .val (.int p1), .val (.int (0 : Int32)), .val (.ref a_MEDIA), .val (.int i), .val (.ref o), .val (.int (1 : Int32)), .unset] [(.int (1 : Int32))])) (fun t_ k_ => XS.iconst X7.here hx rfl (hb hby at_74) k_) ?_
        refine own_go (T7.setTop (mkF m 79 #[.val (.int p0), .val (.int p1), .val (.int (0 : Int32)), .val (.ref a_MEDIA), .val (.int i), .val (.ref o), .val (.int (1 : Int32)), .unset] [(.int (1 : Int32))])) (fun t_ k_ => XS.goto X7.here hx rfl (pc0 := 75) (pc' := 79) rfl (hb hby at_75) (by decide) (by decide) k_) ?_
        refine own_go (T7.setTop (mkF m 81 #[.val (.int p0), .val (.int p1), .val (.int (0 : Int32)), .val (.ref a_MEDIA), .val (.int i), .val (.ref o), .val (.int (1 : Int32)), .val (.int (1 : Int32))] [])) (fun t_ k_ => XS.istore X7.here hx rfl (hb hby at_79) rfl (l' := #[.val (.int p0), .val (.int p1), .val (.int (0 : Int32)), .val (.ref a_MEDIA), .val (.int i), .val (.ref o), .val (.int (1 : Int32)), .val (.int (1 : Int32))]) rfl k_) ?_
        refine own_go (T7.setTop (mkF m 82 #[.val (.int p0), .val (.int p1), .val (.int (0 : Int32)), .val (.ref a_MEDIA), .val (.int i), .val (.ref o), .val (.int (1 : Int32)), .val (.int (1 : Int32))] [(.ref a_MEDIA)])) (fun t_ k_ => XS.aloadN X7.here hx rfl (hb hby at_81) rfl rfl k_) ?_
        refine own_go (T7.setTop (mkF m 84 #[.val (.int p0), .val (.int p1), .val (.int (0 : Int32)), .val (.ref a_MEDIA), .val (.int i), .val (.ref o), .val (.int (1 : Int32)), .val (.int (1 : Int32))] [(.ref o), (.ref a_MEDIA)])) (fun t_ k_ => XS.aload X7.here hx rfl (hb hby at_82) rfl rfl k_) ?_
        obtain ⟨cq9, kq9, q9a, q9b, q9c⟩ := isOf hZ e7 (X_MEDIA.ext O)
        obtain ⟨_, _, ⟨T9, Lu9, ku9, nu9⟩, -, X9, ⟨Lc9, hQ9, lu9, yu9, zu9⟩, st9⟩ := X7.virtualBack hx (y := (⟨"com/example/trailcaster/trailcaster/model/ExportTrigger", "takes", "(Lcom/example/trailcaster/trailcaster/model/MediaType;)Z"⟩ : MethodName)) (z := (⟨"com/example/trailcaster/trailcaster/model/ExportTrigger", "takes", "(Lcom/example/trailcaster/trailcaster/model/MediaType;)Z"⟩ : MethodName)) hown (mvT hZ (hw _ (List.mem_of_getElem? (i := 11) rfl))) (mvT hZ (hw _ (List.mem_of_getElem? (i := 12) rfl))) (notFace_of_selects (args := #[]) (mvT hZ (hw _ (List.mem_of_getElem? (i := 14) rfl)))) (mvT hZ (hw _ (List.mem_of_getElem? (i := 14) rfl))) (mvT hZ (hw _ (List.mem_of_getElem? (i := 13) rfl))) (by decide) (backOf (W := 0) (rm_tk l Z a0 hw [] (a_MEDIA) (o) (own_net i) ((0 : Int32)) h0 O F_MEDIA_overNetworkOnly hnet hxo (own_net01 i)) hZ (hw _ (List.mem_of_getElem? (i := 15) rfl)) (hw _ (List.mem_of_getElem? (i := 1) rfl)) (by decide) (by decide)) q9a q9c (g := (mkF m 84 #[.val (.int p0), .val (.int p1), .val (.int (0 : Int32)), .val (.ref a_MEDIA), .val (.int i), .val (.ref o), .val (.int (1 : Int32)), .val (.int (1 : Int32))] [(.ref o), (.ref a_MEDIA)])) rfl (by rw [hml]; rfl) (Steps.refl _) (argsL := [(.ref o)]) (rest := []) (lenOf own_pd2 rfl) rfl (by show 2 * 0 + _ ≤ _; exact Nat.le_of_eq rfl) (hb hby at_84) (fun _ _ => ⟨rfl, e7, (by decide : 0 + 0 ≤ _), (by decide : 0 + 0 ≤ _)⟩)
        dsimp only [Pt.U, Pt.locs, Pt.cells, Pt.slots] at X9 lu9 yu9 zu9 st9 hQ9
        subst lu9 yu9 zu9
        obtain ⟨rfl, N9q, e9⟩ := hQ9
        have N9 := Fr.app N3 N9q
        refine own_go (T9.setTop (mkF m 87 #[.val (.int p0), .val (.int p1), .val (.int (0 : Int32)), .val (.ref a_MEDIA), .val (.int i), .val (.ref o), .val (.int (1 : Int32)), .val (.int (1 : Int32))] [(.int (if (0 : Int32) = 0 then 1 else if own_net i = 0 then 0 else 1))])) (fun t_ k_ => st9.trans k_) ?_
        refine own_go (T9.setTop (mkF m 89 #[.val (.int p0), .val (.int p1), .val (.int (0 : Int32)), .val (.ref a_MEDIA), .val (.int i), .val (.ref o), .val (.int (1 : Int32)), .val (.int (1 : Int32))] [(.int (1 : Int32)), (.int (if (0 : Int32) = 0 then 1 else if own_net i = 0 then 0 else 1))])) (fun t_ k_ => XS.iload X9.here hx rfl (hb hby at_87) rfl k_) ?_
        have k3 : i = 3 ↔ o = a_EMAIL := ⟨fun q => by rw [hoo, q]; rfl, fun q => Decidable.byContradiction fun r => Fld.ne ho F_EMAIL_ordinal (by simpa using r) q⟩
        have k7 : i = 7 ↔ o = a_URI := ⟨fun q => by rw [hoo, q]; rfl, fun q => Decidable.byContradiction fun r => Fld.ne ho F_URI_ordinal (by simpa using r) q⟩
        have hfin : (if (0 : Int32) = 0 then 1 else if own_net i = 0 then 0 else 1) = (1 : Int32) := by simp [own_net, k3, k7, ha47_5, ha55_8]
        refine own_go (T9.setTop (mkF m 92 #[.val (.int p0), .val (.int p1), .val (.int (0 : Int32)), .val (.ref a_MEDIA), .val (.int i), .val (.ref o), .val (.int (1 : Int32)), .val (.int (1 : Int32))] [])) (fun t_ k_ => XS.icmpNo X9.here hx rfl (hb hby at_89) rfl (teq hfin).2 k_) ?_
        refine own_go (T9.setTop (mkF m 93 #[.val (.int p0), .val (.int p1), .val (.int (0 : Int32)), .val (.ref a_MEDIA), .val (.int i), .val (.ref o), .val (.int (1 : Int32)), .val (.int (1 : Int32))] [(.int (1 : Int32))])) (fun t_ k_ => XS.iconst X9.here hx rfl (hb hby at_92) k_) ?_
        refine own_go (T9.setTop (mkF m 97 #[.val (.int p0), .val (.int p1), .val (.int (0 : Int32)), .val (.ref a_MEDIA), .val (.int i), .val (.ref o), .val (.int (1 : Int32)), .val (.int (1 : Int32))] [(.int (1 : Int32))])) (fun t_ k_ => XS.goto X9.here hx rfl (pc0 := 93) (pc' := 97) rfl (hb hby at_93) (by decide) (by decide) k_) ?_
        obtain ⟨fs, hr, hrun, hended, hW, hsame⟩ := X9.leave (v := some (.int (nar .boolean (1 : Int32)))) (fun h => by rw [Bd.returns] at h; cases h)
        refine ⟨_, _, retN X9 hx (t := .boolean) Bd.returns (by simp) (hb hby at_97) hr, hrun, hended, _, _, rfl, ?_, ⟨_, rfl⟩, hW, hsame.mono (by decide) (by decide)⟩
        show Q_law Z p0 p1 a_MEDIA a_EMAIL a_DVD a_URI a_SD a_CD a_XDS_I_SUBMISSION a_MMC a_PAPER a_USB a_COMPACT_FLASH a_FILM h0 _ T9.heap _
        exact ⟨rfl, N9, trivial⟩
      ·
        refine own_go (T7.setTop (mkF m 62 #[.val (.int p0), .val (.int p1), .val (.int (0 : Int32)), .val (.ref a_MEDIA), .val (.int i), .val (.ref o), .unset, .unset] [])) (fun t_ k_ => Jvm.RoadKit.acmp (g := (mkF m 55 #[.val (.int p0), .val (.int p1), .val (.int (0 : Int32)), .val (.ref a_MEDIA), .val (.int i), .val (.ref o), .unset, .unset] [(.ref a_URI), (.ref o)])) X7 hx rfl rfl rfl (pc0 := 55) (pc' := 62) (same := false) rfl (hb hby at_55) rfl (decide_eq_false fun q => ha55_8 (Value.ref.inj q)) (by decide) (by decide) k_) ?_
        refine own_go (T7.setTop (mkF m 63 #[.val (.int p0), .val (.int p1), .val (.int (0 : Int32)), .val (.ref a_MEDIA), .val (.int i), .val (.ref o), .unset, .unset] [(.int (0 : Int32))])) (fun t_ k_ => XS.iconst X7.here hx rfl (hb hby at_62) k_) ?_
        refine own_go (T7.setTop (mkF m 65 #[.val (.int p0), .val (.int p1), .val (.int (0 : Int32)), .val (.ref a_MEDIA), .val (.int i), .val (.ref o), .val (.int (0 : Int32)), .unset] [])) (fun t_ k_ => XS.istore X7.here hx rfl (hb hby at_63) rfl (l' := #[.val (.int p0), .val (.int p1), .val (.int (0 : Int32)), .val (.ref a_MEDIA), .val (.int i), .val (.ref o), .val (.int (0 : Int32)), .unset]) rfl k_) ?_
        refine own_go (T7.setTop (mkF m 66 #[.val (.int p0), .val (.int p1), .val (.int (0 : Int32)), .val (.ref a_MEDIA), .val (.int i), .val (.ref o), .val (.int (0 : Int32)), .unset] [(.int (0 : Int32))])) (fun t_ k_ => XS.iloadN X7.here hx rfl (hb hby at_65) rfl k_) ?_
        refine own_go (T7.setTop (mkF m 74 #[.val (.int p0), .val (.int p1), .val (.int (0 : Int32)), .val (.ref a_MEDIA), .val (.int i), .val (.ref o), .val (.int (0 : Int32)), .unset] [])) (fun t_ k_ => XS.ifYes X7.here hx rfl (pc0 := 66) (pc' := 74) rfl (hb hby at_66) rfl ((if0 _ _).trans (teq (by decide : (0 : Int32) = (0 : Int32))).1) (by decide) (by decide) k_) ?_
        refine own_go (T7.setTop (mkF m 75 #[.val (.int p0), .val (.int p1), .val (.int (0 : Int32)), .val (.ref a_MEDIA), .val (.int i), .val (.ref o), .val (.int (0 : Int32)), .unset] [(.int (1 : Int32))])) (fun t_ k_ => XS.iconst X7.here hx rfl (hb hby at_74) k_) ?_
        refine own_go (T7.setTop (mkF m 79 #[.val (.int p0), .val (.int p1), .val (.int (0 : Int32)), .val (.ref a_MEDIA), .val (.int i), .val (.ref o), .val (.int (0 : Int32)), .unset] [(.int (1 : Int32))])) (fun t_ k_ => XS.goto X7.here hx rfl (pc0 := 75) (pc' := 79) rfl (hb hby at_75) (by decide) (by decide) k_) ?_
        refine own_go (T7.setTop (mkF m 81 #[.val (.int p0), .val (.int p1), .val (.int (0 : Int32)), .val (.ref a_MEDIA), .val (.int i), .val (.ref o), .val (.int (0 : Int32)), .val (.int (1 : Int32))] [])) (fun t_ k_ => XS.istore X7.here hx rfl (hb hby at_79) rfl (l' := #[.val (.int p0), .val (.int p1), .val (.int (0 : Int32)), .val (.ref a_MEDIA), .val (.int i), .val (.ref o), .val (.int (0 : Int32)), .val (.int (1 : Int32))]) rfl k_) ?_
        refine own_go (T7.setTop (mkF m 82 #[.val (.int p0), .val (.int p1), .val (.int (0 : Int32)), .val (.ref a_MEDIA), .val (.int i), .val (.ref o), .val (.int (0 : Int32)), .val (.int (1 : Int32))] [(.ref a_MEDIA)])) (fun t_ k_ => XS.aloadN X7.here hx rfl (hb hby at_81) rfl rfl k_) ?_
        refine own_go (T7.setTop (mkF m 84 #[.val (.int p0), .val (.int p1), .val (.int (0 : Int32)), .val (.ref a_MEDIA), .val (.int i), .val (.ref o), .val (.int (0 : Int32)), .val (.int (1 : Int32))] [(.ref o), (.ref a_MEDIA)])) (fun t_ k_ => XS.aload X7.here hx rfl (hb hby at_82) rfl rfl k_) ?_
        obtain ⟨cq10, kq10, q10a, q10b, q10c⟩ := isOf hZ e7 (X_MEDIA.ext O)
        obtain ⟨_, _, ⟨T10, Lu10, ku10, nu10⟩, -, X10, ⟨Lc10, hQ10, lu10, yu10, zu10⟩, st10⟩ := X7.virtualBack hx (y := (⟨"com/example/trailcaster/trailcaster/model/ExportTrigger", "takes", "(Lcom/example/trailcaster/trailcaster/model/MediaType;)Z"⟩ : MethodName)) (z := (⟨"com/example/trailcaster/trailcaster/model/ExportTrigger", "takes", "(Lcom/example/trailcaster/trailcaster/model/MediaType;)Z"⟩ : MethodName)) hown (mvT hZ (hw _ (List.mem_of_getElem? (i := 11) rfl))) (mvT hZ (hw _ (List.mem_of_getElem? (i := 12) rfl))) (notFace_of_selects (args := #[]) (mvT hZ (hw _ (List.mem_of_getElem? (i := 14) rfl)))) (mvT hZ (hw _ (List.mem_of_getElem? (i := 14) rfl))) (mvT hZ (hw _ (List.mem_of_getElem? (i := 13) rfl))) (by decide) (backOf (W := 0) (rm_tk l Z a0 hw [] (a_MEDIA) (o) (own_net i) ((0 : Int32)) h0 O F_MEDIA_overNetworkOnly hnet hxo (own_net01 i)) hZ (hw _ (List.mem_of_getElem? (i := 15) rfl)) (hw _ (List.mem_of_getElem? (i := 1) rfl)) (by decide) (by decide)) q10a q10c (g := (mkF m 84 #[.val (.int p0), .val (.int p1), .val (.int (0 : Int32)), .val (.ref a_MEDIA), .val (.int i), .val (.ref o), .val (.int (0 : Int32)), .val (.int (1 : Int32))] [(.ref o), (.ref a_MEDIA)])) rfl (by rw [hml]; rfl) (Steps.refl _) (argsL := [(.ref o)]) (rest := []) (lenOf own_pd2 rfl) rfl (by show 2 * 0 + _ ≤ _; exact Nat.le_of_eq rfl) (hb hby at_84) (fun _ _ => ⟨rfl, e7, (by decide : 0 + 0 ≤ _), (by decide : 0 + 0 ≤ _)⟩)
        dsimp only [Pt.U, Pt.locs, Pt.cells, Pt.slots] at X10 lu10 yu10 zu10 st10 hQ10
        subst lu10 yu10 zu10
        obtain ⟨rfl, N10q, e10⟩ := hQ10
        have N10 := Fr.app N3 N10q
        refine own_go (T10.setTop (mkF m 87 #[.val (.int p0), .val (.int p1), .val (.int (0 : Int32)), .val (.ref a_MEDIA), .val (.int i), .val (.ref o), .val (.int (0 : Int32)), .val (.int (1 : Int32))] [(.int (if (0 : Int32) = 0 then 1 else if own_net i = 0 then 0 else 1))])) (fun t_ k_ => st10.trans k_) ?_
        refine own_go (T10.setTop (mkF m 89 #[.val (.int p0), .val (.int p1), .val (.int (0 : Int32)), .val (.ref a_MEDIA), .val (.int i), .val (.ref o), .val (.int (0 : Int32)), .val (.int (1 : Int32))] [(.int (1 : Int32)), (.int (if (0 : Int32) = 0 then 1 else if own_net i = 0 then 0 else 1))])) (fun t_ k_ => XS.iload X10.here hx rfl (hb hby at_87) rfl k_) ?_
        have k3 : i = 3 ↔ o = a_EMAIL := ⟨fun q => by rw [hoo, q]; rfl, fun q => Decidable.byContradiction fun r => Fld.ne ho F_EMAIL_ordinal (by simpa using r) q⟩
        have k7 : i = 7 ↔ o = a_URI := ⟨fun q => by rw [hoo, q]; rfl, fun q => Decidable.byContradiction fun r => Fld.ne ho F_URI_ordinal (by simpa using r) q⟩
        have hfin : (if (0 : Int32) = 0 then 1 else if own_net i = 0 then 0 else 1) = (1 : Int32) := by simp [own_net, k3, k7, ha47_5, ha55_8]
        refine own_go (T10.setTop (mkF m 92 #[.val (.int p0), .val (.int p1), .val (.int (0 : Int32)), .val (.ref a_MEDIA), .val (.int i), .val (.ref o), .val (.int (0 : Int32)), .val (.int (1 : Int32))] [])) (fun t_ k_ => XS.icmpNo X10.here hx rfl (hb hby at_89) rfl (teq hfin).2 k_) ?_
        refine own_go (T10.setTop (mkF m 93 #[.val (.int p0), .val (.int p1), .val (.int (0 : Int32)), .val (.ref a_MEDIA), .val (.int i), .val (.ref o), .val (.int (0 : Int32)), .val (.int (1 : Int32))] [(.int (1 : Int32))])) (fun t_ k_ => XS.iconst X10.here hx rfl (hb hby at_92) k_) ?_
        refine own_go (T10.setTop (mkF m 97 #[.val (.int p0), .val (.int p1), .val (.int (0 : Int32)), .val (.ref a_MEDIA), .val (.int i), .val (.ref o), .val (.int (0 : Int32)), .val (.int (1 : Int32))] [(.int (1 : Int32))])) (fun t_ k_ => XS.goto X10.here hx rfl (pc0 := 93) (pc' := 97) rfl (hb hby at_93) (by decide) (by decide) k_) ?_
        obtain ⟨fs, hr, hrun, hended, hW, hsame⟩ := X10.leave (v := some (.int (nar .boolean (1 : Int32)))) (fun h => by rw [Bd.returns] at h; cases h)
        refine ⟨_, _, retN X10 hx (t := .boolean) Bd.returns (by simp) (hb hby at_97) hr, hrun, hended, _, _, rfl, ?_, ⟨_, rfl⟩, hW, hsame.mono (by decide) (by decide)⟩
        show Q_law Z p0 p1 a_MEDIA a_EMAIL a_DVD a_URI a_SD a_CD a_XDS_I_SUBMISSION a_MMC a_PAPER a_USB a_COMPACT_FLASH a_FILM h0 _ T10.heap _
        exact ⟨rfl, N10, trivial⟩
  ·
    refine own_go (s₁.setTop (mkF m 6 #[.val (.int p0), .val (.int p1), .unset, .unset, .unset, .unset, .unset, .unset] [])) (fun t_ k_ => XS.ifNo X0.here hx rfl (hb hby at_3) rfl ((if0 _ _).trans (feq hc3_1).1) k_) ?_
    refine own_go (s₁.setTop (mkF m 7 #[.val (.int p0), .val (.int p1), .unset, .unset, .unset, .unset, .unset, .unset] [(.int (1 : Int32))])) (fun t_ k_ => XS.iconst X0.here hx rfl (hb hby at_6) k_) ?_
    refine own_go (s₁.setTop (mkF m 11 #[.val (.int p0), .val (.int p1), .unset, .unset, .unset, .unset, .unset, .unset] [(.int (1 : Int32))])) (fun t_ k_ => XS.goto X0.here hx rfl (pc0 := 7) (pc' := 11) rfl (hb hby at_7) (by decide) (by decide) k_) ?_
    refine own_go (s₁.setTop (mkF m 12 #[.val (.int p0), .val (.int p1), .val (.int (1 : Int32)), .unset, .unset, .unset, .unset, .unset] [])) (fun t_ k_ => XS.istoreN X0.here hx rfl (hb hby at_11) rfl (l' := #[.val (.int p0), .val (.int p1), .val (.int (1 : Int32)), .unset, .unset, .unset, .unset, .unset]) rfl k_) ?_
    refine own_go (s₁.setTop (mkF m 13 #[.val (.int p0), .val (.int p1), .val (.int (1 : Int32)), .unset, .unset, .unset, .unset, .unset] [(.int (1 : Int32))])) (fun t_ k_ => XS.iloadN X0.here hx rfl (hb hby at_12) rfl k_) ?_
    refine own_go (s₁.setTop (mkF m 16 #[.val (.int p0), .val (.int p1), .val (.int (1 : Int32)), .unset, .unset, .unset, .unset, .unset] [])) (fun t_ k_ => XS.ifNo X0.here hx rfl (hb hby at_13) rfl ((if0 _ _).trans (feq (by decide : ¬ ((1 : Int32) = (0 : Int32)))).1) k_) ?_
    obtain ⟨T11, X11, e11, st11⟩ := getS2 X0 hx hZ hown (host := "") (Or.inl (hw _ (List.mem_of_getElem? (i := 26) rfl))) Via.refl e0 (S_XDS_I_SUBMISSION.ext O) (g := (mkF m 16 #[.val (.int p0), .val (.int p1), .val (.int (1 : Int32)), .unset, .unset, .unset, .unset, .unset] [])) rfl (hb hby at_16)
    refine own_go (T11.setTop (mkF m 19 #[.val (.int p0), .val (.int p1), .val (.int (1 : Int32)), .unset, .unset, .unset, .unset, .unset] [(.ref a_XDS_I_SUBMISSION)])) (fun t_ k_ => st11 _ k_) ?_
    refine own_go (T11.setTop (mkF m 25 #[.val (.int p0), .val (.int p1), .val (.int (1 : Int32)), .unset, .unset, .unset, .unset, .unset] [(.ref a_XDS_I_SUBMISSION)])) (fun t_ k_ => XS.goto X11.here hx rfl (pc0 := 19) (pc' := 25) rfl (hb hby at_19) (by decide) (by decide) k_) ?_
    refine own_go (T11.setTop (mkF m 26 #[.val (.int p0), .val (.int p1), .val (.int (1 : Int32)), .val (.ref a_XDS_I_SUBMISSION), .unset, .unset, .unset, .unset] [])) (fun t_ k_ => XS.astoreN X11.here hx rfl (hb hby at_25) rfl rfl (l' := #[.val (.int p0), .val (.int p1), .val (.int (1 : Int32)), .val (.ref a_XDS_I_SUBMISSION), .unset, .unset, .unset, .unset]) rfl k_) ?_
    refine own_go (T11.setTop (mkF m 27 #[.val (.int p0), .val (.int p1), .val (.int (1 : Int32)), .val (.ref a_XDS_I_SUBMISSION), .unset, .unset, .unset, .unset] [(.int p1)])) (fun t_ k_ => XS.iloadN X11.here hx rfl (hb hby at_26) rfl k_) ?_
    refine own_go (T11.setTop (mkF m 29 #[.val (.int p0), .val (.int p1), .val (.int (1 : Int32)), .val (.ref a_XDS_I_SUBMISSION), .unset, .unset, .unset, .unset] [(.int (2147483647 : Int32)), (.int p1)])) (fun t_ k_ => X11.ldcInt hx hown (mvT hZ (hw _ (List.mem_of_getElem? (i := 3) rfl))) (g := (mkF m 27 #[.val (.int p0), .val (.int p1), .val (.int (1 : Int32)), .val (.ref a_XDS_I_SUBMISSION), .unset, .unset, .unset, .unset] [(.int p1)])) rfl (hb hby at_27) _ k_) ?_
    refine own_go (T11.setTop (mkF m 30 #[.val (.int p0), .val (.int p1), .val (.int (1 : Int32)), .val (.ref a_XDS_I_SUBMISSION), .unset, .unset, .unset, .unset] [(.int (p1 &&& (2147483647 : Int32)))])) (fun t_ k_ => XS.iand X11.here hx rfl (hb hby at_29) rfl k_) ?_
    refine own_go (T11.setTop (mkF m 32 #[.val (.int p0), .val (.int p1), .val (.int (1 : Int32)), .val (.ref a_XDS_I_SUBMISSION), .unset, .unset, .unset, .unset] [(.int (10 : Int32)), (.int (p1 &&& (2147483647 : Int32)))])) (fun t_ k_ => XS.bipush X11.here hx rfl (hb hby at_30) k_) ?_
    refine own_go (T11.setTop (mkF m 33 #[.val (.int p0), .val (.int p1), .val (.int (1 : Int32)), .val (.ref a_XDS_I_SUBMISSION), .unset, .unset, .unset, .unset] [(.int ((p1 &&& (2147483647 : Int32)) % (10 : Int32)))])) (fun t_ k_ => Jvm.RoadKit.iremM X11 hx rfl (hb hby at_32) rfl (by decide) k_) ?_
    refine own_go (T11.setTop (mkF m 35 #[.val (.int p0), .val (.int p1), .val (.int (1 : Int32)), .val (.ref a_XDS_I_SUBMISSION), .val (.int ((p1 &&& (2147483647 : Int32)) % (10 : Int32))), .unset, .unset, .unset] [])) (fun t_ k_ => XS.istore X11.here hx rfl (hb hby at_33) rfl (l' := #[.val (.int p0), .val (.int p1), .val (.int (1 : Int32)), .val (.ref a_XDS_I_SUBMISSION), .val (.int ((p1 &&& (2147483647 : Int32)) % (10 : Int32))), .unset, .unset, .unset]) rfl k_) ?_
    obtain ⟨hi0, hi1⟩ := own_mod p1 10 (by decide)
    obtain ⟨i, hi⟩ : ∃ z, z = ((p1 &&& (2147483647 : Int32)) % (10 : Int32)) := ⟨_, rfl⟩
    rw [← hi] at hi0 hi1
    rw [← hi]
    have ho := own_pick_ord i w hi0 hi1
    have hnet := own_pick_net i w hi0 hi1
    have hxo := own_pick_exa i w
    obtain ⟨o, hoo⟩ : ∃ z, z = own_pick i a_CD a_DVD a_USB a_EMAIL a_COMPACT_FLASH a_MMC a_SD a_URI a_FILM a_PAPER := ⟨_, rfl⟩
    rw [← hoo] at ho hxo hnet
    refine own_go (T11.setTop (mkF m 37 #[.val (.int p0), .val (.int p1), .val (.int (1 : Int32)), .val (.ref a_XDS_I_SUBMISSION), .val (.int i), .unset, .unset, .unset] [(.int i)])) (fun t_ k_ => XS.iload X11.here hx rfl (hb hby at_35) rfl k_) ?_
    obtain ⟨_, _, ⟨T12, Lu12, ku12, nu12⟩, -, X12, ⟨Lc12, hQ12, lu12, yu12, zu12⟩, st12⟩ := Jvm.LawKit.callS X11 hx (y := (⟨"com/example/trailcaster/trailcaster/model/ExportTriggerTakesPinLaw", "mediaOf", "(I)Lcom/example/trailcaster/trailcaster/model/MediaType;"⟩ : MethodName)) hown (mvT hZ (hw _ (List.mem_of_getElem? (i := 4) rfl))) (mvT hZ (hw _ (List.mem_of_getElem? (i := 5) rfl))) (mvT hZ (hw _ (List.mem_of_getElem? (i := 6) rfl))) (mvT hZ (hw _ (List.mem_of_getElem? (i := 7) rfl))) (by decide) (backOf (W := 0) (rm_pick l Z a0 hw [] (i) (a_MEDIA) (a_EMAIL) (a_DVD) (a_URI) (a_SD) (a_CD) (a_XDS_I_SUBMISSION) (a_MMC) (a_PAPER) (a_USB) (a_COMPACT_FLASH) (a_FILM) h0 O w) hZ (hw _ (List.mem_of_getElem? (i := 7) rfl)) (hw _ (List.mem_of_getElem? (i := 6) rfl)) (by decide) (by decide)) (g := (mkF m 37 #[.val (.int p0), .val (.int p1), .val (.int (1 : Int32)), .val (.ref a_XDS_I_SUBMISSION), .val (.int i), .unset, .unset, .unset] [(.int i)])) rfl (by rw [hml]; rfl) (argsL := [(.int i)]) (rest := []) (lenOf own_pd1 rfl) rfl (by show 2 * 0 + _ ≤ _; exact Nat.le_of_eq rfl) (hb hby at_37) (fun _ _ => ⟨rfl, e11, (by decide : 0 + 0 ≤ _), (by decide : 0 + 0 ≤ _)⟩)
    dsimp only [Pt.U, Pt.locs, Pt.cells, Pt.slots] at X12 lu12 yu12 zu12 st12 hQ12
    subst lu12 yu12 zu12
    obtain ⟨rfl, N12q, e12⟩ := hQ12
    have N12 := Fr.app N0 N12q
    rw [← hoo] at st12
    refine own_go (T12.setTop (mkF m 40 #[.val (.int p0), .val (.int p1), .val (.int (1 : Int32)), .val (.ref a_XDS_I_SUBMISSION), .val (.int i), .unset, .unset, .unset] [(.ref o)])) (fun t_ k_ => st12 _ k_) ?_
    refine own_go (T12.setTop (mkF m 42 #[.val (.int p0), .val (.int p1), .val (.int (1 : Int32)), .val (.ref a_XDS_I_SUBMISSION), .val (.int i), .val (.ref o), .unset, .unset] [])) (fun t_ k_ => XS.astore X12.here hx rfl (hb hby at_40) rfl rfl (l' := #[.val (.int p0), .val (.int p1), .val (.int (1 : Int32)), .val (.ref a_XDS_I_SUBMISSION), .val (.int i), .val (.ref o), .unset, .unset]) rfl k_) ?_
    refine own_go (T12.setTop (mkF m 44 #[.val (.int p0), .val (.int p1), .val (.int (1 : Int32)), .val (.ref a_XDS_I_SUBMISSION), .val (.int i), .val (.ref o), .unset, .unset] [(.ref o)])) (fun t_ k_ => XS.aload X12.here hx rfl (hb hby at_42) rfl rfl k_) ?_
    obtain ⟨T13, X13, e13, st13⟩ := getS2 X12 hx hZ hown (host := "") (Or.inl (hw _ (List.mem_of_getElem? (i := 8) rfl))) Via.refl e12 (S_EMAIL.ext O) (g := (mkF m 44 #[.val (.int p0), .val (.int p1), .val (.int (1 : Int32)), .val (.ref a_XDS_I_SUBMISSION), .val (.int i), .val (.ref o), .unset, .unset] [(.ref o)])) rfl (hb hby at_44)
    refine own_go (T13.setTop (mkF m 47 #[.val (.int p0), .val (.int p1), .val (.int (1 : Int32)), .val (.ref a_XDS_I_SUBMISSION), .val (.int i), .val (.ref o), .unset, .unset] [(.ref a_EMAIL), (.ref o)])) (fun t_ k_ => st13 _ k_) ?_
    by_cases ha47_14 : o = a_EMAIL
    ·
      refine own_go (T13.setTop (mkF m 58 #[.val (.int p0), .val (.int p1), .val (.int (1 : Int32)), .val (.ref a_XDS_I_SUBMISSION), .val (.int i), .val (.ref o), .unset, .unset] [])) (fun t_ k_ => Jvm.RoadKit.acmp (g := (mkF m 47 #[.val (.int p0), .val (.int p1), .val (.int (1 : Int32)), .val (.ref a_XDS_I_SUBMISSION), .val (.int i), .val (.ref o), .unset, .unset] [(.ref a_EMAIL), (.ref o)])) X13 hx rfl rfl rfl (pc0 := 47) (pc' := 58) (same := true) rfl (hb hby at_47) rfl (decide_eq_true (congrArg Value.ref ha47_14)) (by decide) (by decide) k_) ?_
      refine own_go (T13.setTop (mkF m 59 #[.val (.int p0), .val (.int p1), .val (.int (1 : Int32)), .val (.ref a_XDS_I_SUBMISSION), .val (.int i), .val (.ref o), .unset, .unset] [(.int (1 : Int32))])) (fun t_ k_ => XS.iconst X13.here hx rfl (hb hby at_58) k_) ?_
      refine own_go (T13.setTop (mkF m 63 #[.val (.int p0), .val (.int p1), .val (.int (1 : Int32)), .val (.ref a_XDS_I_SUBMISSION), .val (.int i), .val (.ref o), .unset, .unset] [(.int (1 : Int32))])) (fun t_ k_ => XS.goto X13.here hx rfl (pc0 := 59) (pc' := 63) rfl (hb hby at_59) (by decide) (by decide) k_) ?_
      refine own_go (T13.setTop (mkF m 65 #[.val (.int p0), .val (.int p1), .val (.int (1 : Int32)), .val (.ref a_XDS_I_SUBMISSION), .val (.int i), .val (.ref o), .val (.int (1 : Int32)), .unset] [])) (fun t_ k_ => XS.istore X13.here hx rfl (hb hby at_63) rfl (l' := #[.val (.int p0), .val (.int p1), .val (.int (1 : Int32)), .val (.ref a_XDS_I_SUBMISSION), .val (.int i), .val (.ref o), .val (.int (1 : Int32)), .unset]) rfl k_) ?_
      refine own_go (T13.setTop (mkF m 66 #[.val (.int p0), .val (.int p1), .val (.int (1 : Int32)), .val (.ref a_XDS_I_SUBMISSION), .val (.int i), .val (.ref o), .val (.int (1 : Int32)), .unset] [(.int (1 : Int32))])) (fun t_ k_ => XS.iloadN X13.here hx rfl (hb hby at_65) rfl k_) ?_
      refine own_go (T13.setTop (mkF m 69 #[.val (.int p0), .val (.int p1), .val (.int (1 : Int32)), .val (.ref a_XDS_I_SUBMISSION), .val (.int i), .val (.ref o), .val (.int (1 : Int32)), .unset] [])) (fun t_ k_ => XS.ifNo X13.here hx rfl (hb hby at_66) rfl ((if0 _ _).trans (feq (by decide : ¬ ((1 : Int32) = (0 : Int32)))).1) k_) ?_
      refine own_go (T13.setTop (mkF m 71 #[.val (.int p0), .val (.int p1), .val (.int (1 : Int32)), .val (.ref a_XDS_I_SUBMISSION), .val (.int i), .val (.ref o), .val (.int (1 : Int32)), .unset] [(.int (1 : Int32))])) (fun t_ k_ => XS.iload X13.here hx rfl (hb hby at_69) rfl k_) ?_
      refine own_go (T13.setTop (mkF m 74 #[.val (.int p0), .val (.int p1), .val (.int (1 : Int32)), .val (.ref a_XDS_I_SUBMISSION), .val (.int i), .val (.ref o), .val (.int (1 : Int32)), .unset] [])) (fun t_ k_ => XS.ifNo X13.here hx rfl (hb hby at_71) rfl ((if0 _ _).trans (feq (by decide : ¬ ((1 : Int32) = (0 : Int32)))).1) k_) ?_
      refine own_go (T13.setTop (mkF m 75 #[.val (.int p0), .val (.int p1), .val (.int (1 : Int32)), .val (.ref a_XDS_I_SUBMISSION), .val (.int i), .val (.ref o), .val (.int (1 : Int32)), .unset] [(.int (1 : Int32))])) (fun t_ k_ => XS.iconst X13.here hx rfl (hb hby at_74) k_) ?_
      refine own_go (T13.setTop (mkF m 79 #[.val (.int p0), .val (.int p1), .val (.int (1 : Int32)), .val (.ref a_XDS_I_SUBMISSION), .val (.int i), .val (.ref o), .val (.int (1 : Int32)), .unset] [(.int (1 : Int32))])) (fun t_ k_ => XS.goto X13.here hx rfl (pc0 := 75) (pc' := 79) rfl (hb hby at_75) (by decide) (by decide) k_) ?_
      refine own_go (T13.setTop (mkF m 81 #[.val (.int p0), .val (.int p1), .val (.int (1 : Int32)), .val (.ref a_XDS_I_SUBMISSION), .val (.int i), .val (.ref o), .val (.int (1 : Int32)), .val (.int (1 : Int32))] [])) (fun t_ k_ => XS.istore X13.here hx rfl (hb hby at_79) rfl (l' := #[.val (.int p0), .val (.int p1), .val (.int (1 : Int32)), .val (.ref a_XDS_I_SUBMISSION), .val (.int i), .val (.ref o), .val (.int (1 : Int32)), .val (.int (1 : Int32))]) rfl k_) ?_
      refine own_go (T13.setTop (mkF m 82 #[.val (.int p0), .val (.int p1), .val (.int (1 : Int32)), .val (.ref a_XDS_I_SUBMISSION), .val (.int i), .val (.ref o), .val (.int (1 : Int32)), .val (.int (1 : Int32))] [(.ref a_XDS_I_SUBMISSION)])) (fun t_ k_ => XS.aloadN X13.here hx rfl (hb hby at_81) rfl rfl k_) ?_
      refine own_go (T13.setTop (mkF m 84 #[.val (.int p0), .val (.int p1), .val (.int (1 : Int32)), .val (.ref a_XDS_I_SUBMISSION), .val (.int i), .val (.ref o), .val (.int (1 : Int32)), .val (.int (1 : Int32))] [(.ref o), (.ref a_XDS_I_SUBMISSION)])) (fun t_ k_ => XS.aload X13.here hx rfl (hb hby at_82) rfl rfl k_) ?_
      obtain ⟨cq15, kq15, q15a, q15b, q15c⟩ := isOf hZ e13 (X_XDS_I_SUBMISSION.ext O)
      obtain ⟨_, _, ⟨T15, Lu15, ku15, nu15⟩, -, X15, ⟨Lc15, hQ15, lu15, yu15, zu15⟩, st15⟩ := X13.virtualBack hx (y := (⟨"com/example/trailcaster/trailcaster/model/ExportTrigger", "takes", "(Lcom/example/trailcaster/trailcaster/model/MediaType;)Z"⟩ : MethodName)) (z := (⟨"com/example/trailcaster/trailcaster/model/ExportTrigger", "takes", "(Lcom/example/trailcaster/trailcaster/model/MediaType;)Z"⟩ : MethodName)) hown (mvT hZ (hw _ (List.mem_of_getElem? (i := 11) rfl))) (mvT hZ (hw _ (List.mem_of_getElem? (i := 12) rfl))) (notFace_of_selects (args := #[]) (mvT hZ (hw _ (List.mem_of_getElem? (i := 14) rfl)))) (mvT hZ (hw _ (List.mem_of_getElem? (i := 14) rfl))) (mvT hZ (hw _ (List.mem_of_getElem? (i := 13) rfl))) (by decide) (backOf (W := 0) (rm_tk l Z a0 hw [] (a_XDS_I_SUBMISSION) (o) (own_net i) ((1 : Int32)) h0 O F_XDS_I_SUBMISSION_overNetworkOnly hnet hxo (own_net01 i)) hZ (hw _ (List.mem_of_getElem? (i := 15) rfl)) (hw _ (List.mem_of_getElem? (i := 1) rfl)) (by decide) (by decide)) q15a q15c (g := (mkF m 84 #[.val (.int p0), .val (.int p1), .val (.int (1 : Int32)), .val (.ref a_XDS_I_SUBMISSION), .val (.int i), .val (.ref o), .val (.int (1 : Int32)), .val (.int (1 : Int32))] [(.ref o), (.ref a_XDS_I_SUBMISSION)])) rfl (by rw [hml]; rfl) (Steps.refl _) (argsL := [(.ref o)]) (rest := []) (lenOf own_pd2 rfl) rfl (by show 2 * 0 + _ ≤ _; exact Nat.le_of_eq rfl) (hb hby at_84) (fun _ _ => ⟨rfl, e13, (by decide : 0 + 0 ≤ _), (by decide : 0 + 0 ≤ _)⟩)
      dsimp only [Pt.U, Pt.locs, Pt.cells, Pt.slots] at X15 lu15 yu15 zu15 st15 hQ15
      subst lu15 yu15 zu15
      obtain ⟨rfl, N15q, e15⟩ := hQ15
      have N15 := Fr.app N12 N15q
      refine own_go (T15.setTop (mkF m 87 #[.val (.int p0), .val (.int p1), .val (.int (1 : Int32)), .val (.ref a_XDS_I_SUBMISSION), .val (.int i), .val (.ref o), .val (.int (1 : Int32)), .val (.int (1 : Int32))] [(.int (if (1 : Int32) = 0 then 1 else if own_net i = 0 then 0 else 1))])) (fun t_ k_ => st15.trans k_) ?_
      refine own_go (T15.setTop (mkF m 89 #[.val (.int p0), .val (.int p1), .val (.int (1 : Int32)), .val (.ref a_XDS_I_SUBMISSION), .val (.int i), .val (.ref o), .val (.int (1 : Int32)), .val (.int (1 : Int32))] [(.int (1 : Int32)), (.int (if (1 : Int32) = 0 then 1 else if own_net i = 0 then 0 else 1))])) (fun t_ k_ => XS.iload X15.here hx rfl (hb hby at_87) rfl k_) ?_
      have k3 : i = 3 ↔ o = a_EMAIL := ⟨fun q => by rw [hoo, q]; rfl, fun q => Decidable.byContradiction fun r => Fld.ne ho F_EMAIL_ordinal (by simpa using r) q⟩
      have k7 : i = 7 ↔ o = a_URI := ⟨fun q => by rw [hoo, q]; rfl, fun q => Decidable.byContradiction fun r => Fld.ne ho F_URI_ordinal (by simpa using r) q⟩
      have hfin : (if (1 : Int32) = 0 then 1 else if own_net i = 0 then 0 else 1) = (1 : Int32) := by simp [own_net, k3, k7, ha47_14]
      refine own_go (T15.setTop (mkF m 92 #[.val (.int p0), .val (.int p1), .val (.int (1 : Int32)), .val (.ref a_XDS_I_SUBMISSION), .val (.int i), .val (.ref o), .val (.int (1 : Int32)), .val (.int (1 : Int32))] [])) (fun t_ k_ => XS.icmpNo X15.here hx rfl (hb hby at_89) rfl (teq hfin).2 k_) ?_
      refine own_go (T15.setTop (mkF m 93 #[.val (.int p0), .val (.int p1), .val (.int (1 : Int32)), .val (.ref a_XDS_I_SUBMISSION), .val (.int i), .val (.ref o), .val (.int (1 : Int32)), .val (.int (1 : Int32))] [(.int (1 : Int32))])) (fun t_ k_ => XS.iconst X15.here hx rfl (hb hby at_92) k_) ?_
      refine own_go (T15.setTop (mkF m 97 #[.val (.int p0), .val (.int p1), .val (.int (1 : Int32)), .val (.ref a_XDS_I_SUBMISSION), .val (.int i), .val (.ref o), .val (.int (1 : Int32)), .val (.int (1 : Int32))] [(.int (1 : Int32))])) (fun t_ k_ => XS.goto X15.here hx rfl (pc0 := 93) (pc' := 97) rfl (hb hby at_93) (by decide) (by decide) k_) ?_
      obtain ⟨fs, hr, hrun, hended, hW, hsame⟩ := X15.leave (v := some (.int (nar .boolean (1 : Int32)))) (fun h => by rw [Bd.returns] at h; cases h)
      refine ⟨_, _, retN X15 hx (t := .boolean) Bd.returns (by simp) (hb hby at_97) hr, hrun, hended, _, _, rfl, ?_, ⟨_, rfl⟩, hW, hsame.mono (by decide) (by decide)⟩
      show Q_law Z p0 p1 a_MEDIA a_EMAIL a_DVD a_URI a_SD a_CD a_XDS_I_SUBMISSION a_MMC a_PAPER a_USB a_COMPACT_FLASH a_FILM h0 _ T15.heap _
      exact ⟨rfl, N15, trivial⟩
    ·
      refine own_go (T13.setTop (mkF m 50 #[.val (.int p0), .val (.int p1), .val (.int (1 : Int32)), .val (.ref a_XDS_I_SUBMISSION), .val (.int i), .val (.ref o), .unset, .unset] [])) (fun t_ k_ => Jvm.RoadKit.acmp (g := (mkF m 47 #[.val (.int p0), .val (.int p1), .val (.int (1 : Int32)), .val (.ref a_XDS_I_SUBMISSION), .val (.int i), .val (.ref o), .unset, .unset] [(.ref a_EMAIL), (.ref o)])) X13 hx rfl rfl rfl (pc0 := 47) (pc' := 50) (same := false) rfl (hb hby at_47) rfl (decide_eq_false fun q => ha47_14 (Value.ref.inj q)) (by decide) (by decide) k_) ?_
      refine own_go (T13.setTop (mkF m 52 #[.val (.int p0), .val (.int p1), .val (.int (1 : Int32)), .val (.ref a_XDS_I_SUBMISSION), .val (.int i), .val (.ref o), .unset, .unset] [(.ref o)])) (fun t_ k_ => XS.aload X13.here hx rfl (hb hby at_50) rfl rfl k_) ?_
      obtain ⟨T16, X16, e16, st16⟩ := getS2 X13 hx hZ hown (host := "") (Or.inl (hw _ (List.mem_of_getElem? (i := 20) rfl))) Via.refl e13 (S_URI.ext O) (g := (mkF m 52 #[.val (.int p0), .val (.int p1), .val (.int (1 : Int32)), .val (.ref a_XDS_I_SUBMISSION), .val (.int i), .val (.ref o), .unset, .unset] [(.ref o)])) rfl (hb hby at_52)
      refine own_go (T16.setTop (mkF m 55 #[.val (.int p0), .val (.int p1), .val (.int (1 : Int32)), .val (.ref a_XDS_I_SUBMISSION), .val (.int i), .val (.ref o), .unset, .unset] [(.ref a_URI), (.ref o)])) (fun t_ k_ => st16 _ k_) ?_
      by_cases ha55_17 : o = a_URI
      ·
        refine own_go (T16.setTop (mkF m 58 #[.val (.int p0), .val (.int p1), .val (.int (1 : Int32)), .val (.ref a_XDS_I_SUBMISSION), .val (.int i), .val (.ref o), .unset, .unset] [])) (fun t_ k_ => Jvm.RoadKit.acmp (g := (mkF m 55 #[.val (.int p0), .val (.int p1), .val (.int (1 : Int32)), .val (.ref a_XDS_I_SUBMISSION), .val (.int i), .val (.ref o), .unset, .unset] [(.ref a_URI), (.ref o)])) X16 hx rfl rfl rfl (pc0 := 55) (pc' := 58) (same := true) rfl (hb hby at_55) rfl (decide_eq_true (congrArg Value.ref ha55_17)) (by decide) (by decide) k_) ?_
        refine own_go (T16.setTop (mkF m 59 #[.val (.int p0), .val (.int p1), .val (.int (1 : Int32)), .val (.ref a_XDS_I_SUBMISSION), .val (.int i), .val (.ref o), .unset, .unset] [(.int (1 : Int32))])) (fun t_ k_ => XS.iconst X16.here hx rfl (hb hby at_58) k_) ?_
        refine own_go (T16.setTop (mkF m 63 #[.val (.int p0), .val (.int p1), .val (.int (1 : Int32)), .val (.ref a_XDS_I_SUBMISSION), .val (.int i), .val (.ref o), .unset, .unset] [(.int (1 : Int32))])) (fun t_ k_ => XS.goto X16.here hx rfl (pc0 := 59) (pc' := 63) rfl (hb hby at_59) (by decide) (by decide) k_) ?_
        refine own_go (T16.setTop (mkF m 65 #[.val (.int p0), .val (.int p1), .val (.int (1 : Int32)), .val (.ref a_XDS_I_SUBMISSION), .val (.int i), .val (.ref o), .val (.int (1 : Int32)), .unset] [])) (fun t_ k_ => XS.istore X16.here hx rfl (hb hby at_63) rfl (l' := #[.val (.int p0), .val (.int p1), .val (.int (1 : Int32)), .val (.ref a_XDS_I_SUBMISSION), .val (.int i), .val (.ref o), .val (.int (1 : Int32)), .unset]) rfl k_) ?_
        refine own_go (T16.setTop (mkF m 66 #[.val (.int p0), .val (.int p1), .val (.int (1 : Int32)), .val (.ref a_XDS_I_SUBMISSION), .val (.int i), .val (.ref o), .val (.int (1 : Int32)), .unset] [(.int (1 : Int32))])) (fun t_ k_ => XS.iloadN X16.here hx rfl (hb hby at_65) rfl k_) ?_
        refine own_go (T16.setTop (mkF m 69 #[.val (.int p0), .val (.int p1), .val (.int (1 : Int32)), .val (.ref a_XDS_I_SUBMISSION), .val (.int i), .val (.ref o), .val (.int (1 : Int32)), .unset] [])) (fun t_ k_ => XS.ifNo X16.here hx rfl (hb hby at_66) rfl ((if0 _ _).trans (feq (by decide : ¬ ((1 : Int32) = (0 : Int32)))).1) k_) ?_
        refine own_go (T16.setTop (mkF m 71 #[.val (.int p0), .val (.int p1), .val (.int (1 : Int32)), .val (.ref a_XDS_I_SUBMISSION), .val (.int i), .val (.ref o), .val (.int (1 : Int32)), .unset] [(.int (1 : Int32))])) (fun t_ k_ => XS.iload X16.here hx rfl (hb hby at_69) rfl k_) ?_
        refine own_go (T16.setTop (mkF m 74 #[.val (.int p0), .val (.int p1), .val (.int (1 : Int32)), .val (.ref a_XDS_I_SUBMISSION), .val (.int i), .val (.ref o), .val (.int (1 : Int32)), .unset] [])) (fun t_ k_ => XS.ifNo X16.here hx rfl (hb hby at_71) rfl ((if0 _ _).trans (feq (by decide : ¬ ((1 : Int32) = (0 : Int32)))).1) k_) ?_
        refine own_go (T16.setTop (mkF m 75 #[.val (.int p0), .val (.int p1), .val (.int (1 : Int32)), .val (.ref a_XDS_I_SUBMISSION), .val (.int i), .val (.ref o), .val (.int (1 : Int32)), .unset] [(.int (1 : Int32))])) (fun t_ k_ => XS.iconst X16.here hx rfl (hb hby at_74) k_) ?_
        refine own_go (T16.setTop (mkF m 79 #[.val (.int p0), .val (.int p1), .val (.int (1 : Int32)), .val (.ref a_XDS_I_SUBMISSION), .val (.int i), .val (.ref o), .val (.int (1 : Int32)), .unset] [(.int (1 : Int32))])) (fun t_ k_ => XS.goto X16.here hx rfl (pc0 := 75) (pc' := 79) rfl (hb hby at_75) (by decide) (by decide) k_) ?_
        refine own_go (T16.setTop (mkF m 81 #[.val (.int p0), .val (.int p1), .val (.int (1 : Int32)), .val (.ref a_XDS_I_SUBMISSION), .val (.int i), .val (.ref o), .val (.int (1 : Int32)), .val (.int (1 : Int32))] [])) (fun t_ k_ => XS.istore X16.here hx rfl (hb hby at_79) rfl (l' := #[.val (.int p0), .val (.int p1), .val (.int (1 : Int32)), .val (.ref a_XDS_I_SUBMISSION), .val (.int i), .val (.ref o), .val (.int (1 : Int32)), .val (.int (1 : Int32))]) rfl k_) ?_
        refine own_go (T16.setTop (mkF m 82 #[.val (.int p0), .val (.int p1), .val (.int (1 : Int32)), .val (.ref a_XDS_I_SUBMISSION), .val (.int i), .val (.ref o), .val (.int (1 : Int32)), .val (.int (1 : Int32))] [(.ref a_XDS_I_SUBMISSION)])) (fun t_ k_ => XS.aloadN X16.here hx rfl (hb hby at_81) rfl rfl k_) ?_
        refine own_go (T16.setTop (mkF m 84 #[.val (.int p0), .val (.int p1), .val (.int (1 : Int32)), .val (.ref a_XDS_I_SUBMISSION), .val (.int i), .val (.ref o), .val (.int (1 : Int32)), .val (.int (1 : Int32))] [(.ref o), (.ref a_XDS_I_SUBMISSION)])) (fun t_ k_ => XS.aload X16.here hx rfl (hb hby at_82) rfl rfl k_) ?_
        obtain ⟨cq18, kq18, q18a, q18b, q18c⟩ := isOf hZ e16 (X_XDS_I_SUBMISSION.ext O)
        obtain ⟨_, _, ⟨T18, Lu18, ku18, nu18⟩, -, X18, ⟨Lc18, hQ18, lu18, yu18, zu18⟩, st18⟩ := X16.virtualBack hx (y := (⟨"com/example/trailcaster/trailcaster/model/ExportTrigger", "takes", "(Lcom/example/trailcaster/trailcaster/model/MediaType;)Z"⟩ : MethodName)) (z := (⟨"com/example/trailcaster/trailcaster/model/ExportTrigger", "takes", "(Lcom/example/trailcaster/trailcaster/model/MediaType;)Z"⟩ : MethodName)) hown (mvT hZ (hw _ (List.mem_of_getElem? (i := 11) rfl))) (mvT hZ (hw _ (List.mem_of_getElem? (i := 12) rfl))) (notFace_of_selects (args := #[]) (mvT hZ (hw _ (List.mem_of_getElem? (i := 14) rfl)))) (mvT hZ (hw _ (List.mem_of_getElem? (i := 14) rfl))) (mvT hZ (hw _ (List.mem_of_getElem? (i := 13) rfl))) (by decide) (backOf (W := 0) (rm_tk l Z a0 hw [] (a_XDS_I_SUBMISSION) (o) (own_net i) ((1 : Int32)) h0 O F_XDS_I_SUBMISSION_overNetworkOnly hnet hxo (own_net01 i)) hZ (hw _ (List.mem_of_getElem? (i := 15) rfl)) (hw _ (List.mem_of_getElem? (i := 1) rfl)) (by decide) (by decide)) q18a q18c (g := (mkF m 84 #[.val (.int p0), .val (.int p1), .val (.int (1 : Int32)), .val (.ref a_XDS_I_SUBMISSION), .val (.int i), .val (.ref o), .val (.int (1 : Int32)), .val (.int (1 : Int32))] [(.ref o), (.ref a_XDS_I_SUBMISSION)])) rfl (by rw [hml]; rfl) (Steps.refl _) (argsL := [(.ref o)]) (rest := []) (lenOf own_pd2 rfl) rfl (by show 2 * 0 + _ ≤ _; exact Nat.le_of_eq rfl) (hb hby at_84) (fun _ _ => ⟨rfl, e16, (by decide : 0 + 0 ≤ _), (by decide : 0 + 0 ≤ _)⟩)
        dsimp only [Pt.U, Pt.locs, Pt.cells, Pt.slots] at X18 lu18 yu18 zu18 st18 hQ18
        subst lu18 yu18 zu18
        obtain ⟨rfl, N18q, e18⟩ := hQ18
        have N18 := Fr.app N12 N18q
        refine own_go (T18.setTop (mkF m 87 #[.val (.int p0), .val (.int p1), .val (.int (1 : Int32)), .val (.ref a_XDS_I_SUBMISSION), .val (.int i), .val (.ref o), .val (.int (1 : Int32)), .val (.int (1 : Int32))] [(.int (if (1 : Int32) = 0 then 1 else if own_net i = 0 then 0 else 1))])) (fun t_ k_ => st18.trans k_) ?_
        refine own_go (T18.setTop (mkF m 89 #[.val (.int p0), .val (.int p1), .val (.int (1 : Int32)), .val (.ref a_XDS_I_SUBMISSION), .val (.int i), .val (.ref o), .val (.int (1 : Int32)), .val (.int (1 : Int32))] [(.int (1 : Int32)), (.int (if (1 : Int32) = 0 then 1 else if own_net i = 0 then 0 else 1))])) (fun t_ k_ => XS.iload X18.here hx rfl (hb hby at_87) rfl k_) ?_
        have k3 : i = 3 ↔ o = a_EMAIL := ⟨fun q => by rw [hoo, q]; rfl, fun q => Decidable.byContradiction fun r => Fld.ne ho F_EMAIL_ordinal (by simpa using r) q⟩
        have k7 : i = 7 ↔ o = a_URI := ⟨fun q => by rw [hoo, q]; rfl, fun q => Decidable.byContradiction fun r => Fld.ne ho F_URI_ordinal (by simpa using r) q⟩
        have hfin : (if (1 : Int32) = 0 then 1 else if own_net i = 0 then 0 else 1) = (1 : Int32) := by simp [own_net, k3, k7, ha47_14, ha55_17]
        refine own_go (T18.setTop (mkF m 92 #[.val (.int p0), .val (.int p1), .val (.int (1 : Int32)), .val (.ref a_XDS_I_SUBMISSION), .val (.int i), .val (.ref o), .val (.int (1 : Int32)), .val (.int (1 : Int32))] [])) (fun t_ k_ => XS.icmpNo X18.here hx rfl (hb hby at_89) rfl (teq hfin).2 k_) ?_
        refine own_go (T18.setTop (mkF m 93 #[.val (.int p0), .val (.int p1), .val (.int (1 : Int32)), .val (.ref a_XDS_I_SUBMISSION), .val (.int i), .val (.ref o), .val (.int (1 : Int32)), .val (.int (1 : Int32))] [(.int (1 : Int32))])) (fun t_ k_ => XS.iconst X18.here hx rfl (hb hby at_92) k_) ?_
        refine own_go (T18.setTop (mkF m 97 #[.val (.int p0), .val (.int p1), .val (.int (1 : Int32)), .val (.ref a_XDS_I_SUBMISSION), .val (.int i), .val (.ref o), .val (.int (1 : Int32)), .val (.int (1 : Int32))] [(.int (1 : Int32))])) (fun t_ k_ => XS.goto X18.here hx rfl (pc0 := 93) (pc' := 97) rfl (hb hby at_93) (by decide) (by decide) k_) ?_
        obtain ⟨fs, hr, hrun, hended, hW, hsame⟩ := X18.leave (v := some (.int (nar .boolean (1 : Int32)))) (fun h => by rw [Bd.returns] at h; cases h)
        refine ⟨_, _, retN X18 hx (t := .boolean) Bd.returns (by simp) (hb hby at_97) hr, hrun, hended, _, _, rfl, ?_, ⟨_, rfl⟩, hW, hsame.mono (by decide) (by decide)⟩
        show Q_law Z p0 p1 a_MEDIA a_EMAIL a_DVD a_URI a_SD a_CD a_XDS_I_SUBMISSION a_MMC a_PAPER a_USB a_COMPACT_FLASH a_FILM h0 _ T18.heap _
        exact ⟨rfl, N18, trivial⟩
      ·
        refine own_go (T16.setTop (mkF m 62 #[.val (.int p0), .val (.int p1), .val (.int (1 : Int32)), .val (.ref a_XDS_I_SUBMISSION), .val (.int i), .val (.ref o), .unset, .unset] [])) (fun t_ k_ => Jvm.RoadKit.acmp (g := (mkF m 55 #[.val (.int p0), .val (.int p1), .val (.int (1 : Int32)), .val (.ref a_XDS_I_SUBMISSION), .val (.int i), .val (.ref o), .unset, .unset] [(.ref a_URI), (.ref o)])) X16 hx rfl rfl rfl (pc0 := 55) (pc' := 62) (same := false) rfl (hb hby at_55) rfl (decide_eq_false fun q => ha55_17 (Value.ref.inj q)) (by decide) (by decide) k_) ?_
        refine own_go (T16.setTop (mkF m 63 #[.val (.int p0), .val (.int p1), .val (.int (1 : Int32)), .val (.ref a_XDS_I_SUBMISSION), .val (.int i), .val (.ref o), .unset, .unset] [(.int (0 : Int32))])) (fun t_ k_ => XS.iconst X16.here hx rfl (hb hby at_62) k_) ?_
        refine own_go (T16.setTop (mkF m 65 #[.val (.int p0), .val (.int p1), .val (.int (1 : Int32)), .val (.ref a_XDS_I_SUBMISSION), .val (.int i), .val (.ref o), .val (.int (0 : Int32)), .unset] [])) (fun t_ k_ => XS.istore X16.here hx rfl (hb hby at_63) rfl (l' := #[.val (.int p0), .val (.int p1), .val (.int (1 : Int32)), .val (.ref a_XDS_I_SUBMISSION), .val (.int i), .val (.ref o), .val (.int (0 : Int32)), .unset]) rfl k_) ?_
        refine own_go (T16.setTop (mkF m 66 #[.val (.int p0), .val (.int p1), .val (.int (1 : Int32)), .val (.ref a_XDS_I_SUBMISSION), .val (.int i), .val (.ref o), .val (.int (0 : Int32)), .unset] [(.int (1 : Int32))])) (fun t_ k_ => XS.iloadN X16.here hx rfl (hb hby at_65) rfl k_) ?_
        refine own_go (T16.setTop (mkF m 69 #[.val (.int p0), .val (.int p1), .val (.int (1 : Int32)), .val (.ref a_XDS_I_SUBMISSION), .val (.int i), .val (.ref o), .val (.int (0 : Int32)), .unset] [])) (fun t_ k_ => XS.ifNo X16.here hx rfl (hb hby at_66) rfl ((if0 _ _).trans (feq (by decide : ¬ ((1 : Int32) = (0 : Int32)))).1) k_) ?_
        refine own_go (T16.setTop (mkF m 71 #[.val (.int p0), .val (.int p1), .val (.int (1 : Int32)), .val (.ref a_XDS_I_SUBMISSION), .val (.int i), .val (.ref o), .val (.int (0 : Int32)), .unset] [(.int (0 : Int32))])) (fun t_ k_ => XS.iload X16.here hx rfl (hb hby at_69) rfl k_) ?_
        refine own_go (T16.setTop (mkF m 78 #[.val (.int p0), .val (.int p1), .val (.int (1 : Int32)), .val (.ref a_XDS_I_SUBMISSION), .val (.int i), .val (.ref o), .val (.int (0 : Int32)), .unset] [])) (fun t_ k_ => XS.ifYes X16.here hx rfl (pc0 := 71) (pc' := 78) rfl (hb hby at_71) rfl ((if0 _ _).trans (teq (by decide : (0 : Int32) = (0 : Int32))).1) (by decide) (by decide) k_) ?_
        refine own_go (T16.setTop (mkF m 79 #[.val (.int p0), .val (.int p1), .val (.int (1 : Int32)), .val (.ref a_XDS_I_SUBMISSION), .val (.int i), .val (.ref o), .val (.int (0 : Int32)), .unset] [(.int (0 : Int32))])) (fun t_ k_ => XS.iconst X16.here hx rfl (hb hby at_78) k_) ?_
        refine own_go (T16.setTop (mkF m 81 #[.val (.int p0), .val (.int p1), .val (.int (1 : Int32)), .val (.ref a_XDS_I_SUBMISSION), .val (.int i), .val (.ref o), .val (.int (0 : Int32)), .val (.int (0 : Int32))] [])) (fun t_ k_ => XS.istore X16.here hx rfl (hb hby at_79) rfl (l' := #[.val (.int p0), .val (.int p1), .val (.int (1 : Int32)), .val (.ref a_XDS_I_SUBMISSION), .val (.int i), .val (.ref o), .val (.int (0 : Int32)), .val (.int (0 : Int32))]) rfl k_) ?_
        refine own_go (T16.setTop (mkF m 82 #[.val (.int p0), .val (.int p1), .val (.int (1 : Int32)), .val (.ref a_XDS_I_SUBMISSION), .val (.int i), .val (.ref o), .val (.int (0 : Int32)), .val (.int (0 : Int32))] [(.ref a_XDS_I_SUBMISSION)])) (fun t_ k_ => XS.aloadN X16.here hx rfl (hb hby at_81) rfl rfl k_) ?_
        refine own_go (T16.setTop (mkF m 84 #[.val (.int p0), .val (.int p1), .val (.int (1 : Int32)), .val (.ref a_XDS_I_SUBMISSION), .val (.int i), .val (.ref o), .val (.int (0 : Int32)), .val (.int (0 : Int32))] [(.ref o), (.ref a_XDS_I_SUBMISSION)])) (fun t_ k_ => XS.aload X16.here hx rfl (hb hby at_82) rfl rfl k_) ?_
        obtain ⟨cq19, kq19, q19a, q19b, q19c⟩ := isOf hZ e16 (X_XDS_I_SUBMISSION.ext O)
        obtain ⟨_, _, ⟨T19, Lu19, ku19, nu19⟩, -, X19, ⟨Lc19, hQ19, lu19, yu19, zu19⟩, st19⟩ := X16.virtualBack hx (y := (⟨"com/example/trailcaster/trailcaster/model/ExportTrigger", "takes", "(Lcom/example/trailcaster/trailcaster/model/MediaType;)Z"⟩ : MethodName)) (z := (⟨"com/example/trailcaster/trailcaster/model/ExportTrigger", "takes", "(Lcom/example/trailcaster/trailcaster/model/MediaType;)Z"⟩ : MethodName)) hown (mvT hZ (hw _ (List.mem_of_getElem? (i := 11) rfl))) (mvT hZ (hw _ (List.mem_of_getElem? (i := 12) rfl))) (notFace_of_selects (args := #[]) (mvT hZ (hw _ (List.mem_of_getElem? (i := 14) rfl)))) (mvT hZ (hw _ (List.mem_of_getElem? (i := 14) rfl))) (mvT hZ (hw _ (List.mem_of_getElem? (i := 13) rfl))) (by decide) (backOf (W := 0) (rm_tk l Z a0 hw [] (a_XDS_I_SUBMISSION) (o) (own_net i) ((1 : Int32)) h0 O F_XDS_I_SUBMISSION_overNetworkOnly hnet hxo (own_net01 i)) hZ (hw _ (List.mem_of_getElem? (i := 15) rfl)) (hw _ (List.mem_of_getElem? (i := 1) rfl)) (by decide) (by decide)) q19a q19c (g := (mkF m 84 #[.val (.int p0), .val (.int p1), .val (.int (1 : Int32)), .val (.ref a_XDS_I_SUBMISSION), .val (.int i), .val (.ref o), .val (.int (0 : Int32)), .val (.int (0 : Int32))] [(.ref o), (.ref a_XDS_I_SUBMISSION)])) rfl (by rw [hml]; rfl) (Steps.refl _) (argsL := [(.ref o)]) (rest := []) (lenOf own_pd2 rfl) rfl (by show 2 * 0 + _ ≤ _; exact Nat.le_of_eq rfl) (hb hby at_84) (fun _ _ => ⟨rfl, e16, (by decide : 0 + 0 ≤ _), (by decide : 0 + 0 ≤ _)⟩)
        dsimp only [Pt.U, Pt.locs, Pt.cells, Pt.slots] at X19 lu19 yu19 zu19 st19 hQ19
        subst lu19 yu19 zu19
        obtain ⟨rfl, N19q, e19⟩ := hQ19
        have N19 := Fr.app N12 N19q
        refine own_go (T19.setTop (mkF m 87 #[.val (.int p0), .val (.int p1), .val (.int (1 : Int32)), .val (.ref a_XDS_I_SUBMISSION), .val (.int i), .val (.ref o), .val (.int (0 : Int32)), .val (.int (0 : Int32))] [(.int (if (1 : Int32) = 0 then 1 else if own_net i = 0 then 0 else 1))])) (fun t_ k_ => st19.trans k_) ?_
        refine own_go (T19.setTop (mkF m 89 #[.val (.int p0), .val (.int p1), .val (.int (1 : Int32)), .val (.ref a_XDS_I_SUBMISSION), .val (.int i), .val (.ref o), .val (.int (0 : Int32)), .val (.int (0 : Int32))] [(.int (0 : Int32)), (.int (if (1 : Int32) = 0 then 1 else if own_net i = 0 then 0 else 1))])) (fun t_ k_ => XS.iload X19.here hx rfl (hb hby at_87) rfl k_) ?_
        have k3 : i = 3 ↔ o = a_EMAIL := ⟨fun q => by rw [hoo, q]; rfl, fun q => Decidable.byContradiction fun r => Fld.ne ho F_EMAIL_ordinal (by simpa using r) q⟩
        have k7 : i = 7 ↔ o = a_URI := ⟨fun q => by rw [hoo, q]; rfl, fun q => Decidable.byContradiction fun r => Fld.ne ho F_URI_ordinal (by simpa using r) q⟩
        have hfin : (if (1 : Int32) = 0 then 1 else if own_net i = 0 then 0 else 1) = (0 : Int32) := by simp [own_net, k3, k7, ha47_14, ha55_17]
        refine own_go (T19.setTop (mkF m 92 #[.val (.int p0), .val (.int p1), .val (.int (1 : Int32)), .val (.ref a_XDS_I_SUBMISSION), .val (.int i), .val (.ref o), .val (.int (0 : Int32)), .val (.int (0 : Int32))] [])) (fun t_ k_ => XS.icmpNo X19.here hx rfl (hb hby at_89) rfl (teq hfin).2 k_) ?_
        refine own_go (T19.setTop (mkF m 93 #[.val (.int p0), .val (.int p1), .val (.int (1 : Int32)), .val (.ref a_XDS_I_SUBMISSION), .val (.int i), .val (.ref o), .val (.int (0 : Int32)), .val (.int (0 : Int32))] [(.int (1 : Int32))])) (fun t_ k_ => XS.iconst X19.here hx rfl (hb hby at_92) k_) ?_
        refine own_go (T19.setTop (mkF m 97 #[.val (.int p0), .val (.int p1), .val (.int (1 : Int32)), .val (.ref a_XDS_I_SUBMISSION), .val (.int i), .val (.ref o), .val (.int (0 : Int32)), .val (.int (0 : Int32))] [(.int (1 : Int32))])) (fun t_ k_ => XS.goto X19.here hx rfl (pc0 := 93) (pc' := 97) rfl (hb hby at_93) (by decide) (by decide) k_) ?_
        obtain ⟨fs, hr, hrun, hended, hW, hsame⟩ := X19.leave (v := some (.int (nar .boolean (1 : Int32)))) (fun h => by rw [Bd.returns] at h; cases h)
        refine ⟨_, _, retN X19 hx (t := .boolean) Bd.returns (by simp) (hb hby at_97) hr, hrun, hended, _, _, rfl, ?_, ⟨_, rfl⟩, hW, hsame.mono (by decide) (by decide)⟩
        show Q_law Z p0 p1 a_MEDIA a_EMAIL a_DVD a_URI a_SD a_CD a_XDS_I_SUBMISSION a_MMC a_PAPER a_USB a_COMPACT_FLASH a_FILM h0 _ T19.heap _
        exact ⟨rfl, N19, trivial⟩
set_option maxRecDepth 65536 in
set_option maxHeartbeats 40000000 in
theorem comes_1 {Post : Tables → Env → Array Value → State → Outcome → State → Prop} (hpost : ∀ tb e args s v u, (limb_1_1.after args s (.returned v) u = true ∧ limb_1_2.after args s (.returned v) u = true ∧ True) → FrameEnd s (.returned v) u (Jvm.fieldLocs frame_1_writes args s ++ Jvm.arrayLocs frame_1_arrays args s ++ Jvm.staticLocs frame_1_statics s) 0 0 → Post tb e args s (.returned v) u) :
    ArmFor flags0 classFile x code maxLocals ret World_1 tables_1 room_1 Calls_1 rest_1 Pre_1 Post := by
  intro l hfl _ _ p e ha hc hk s m args below hf hA hF happ hP
  obtain ⟨hcalls, hrest, hpre⟩ := hP
  obtain ⟨-, -, -, hnamed, -, -, -, hat⟩ := (Spec.applies_iff hf).mp happ
  obtain ⟨hg, hn⟩ := and_e (Cond.before_iff.mp (show (Jvm.Cond.and given_1 narrow_1).before args s = true from hpre))
  obtain ⟨g1, g2⟩ := and_e hg
  obtain ⟨g3, g4⟩ := and_e g2
  obtain ⟨w0, w1, rfl⟩ : ∃ w0 w1 : Value, args = #[w0, w1] := by
    have hs : args.size = 2 := by simpa [Cond.value, given_1] using g1
    obtain ⟨L⟩ := args
    match L, hs with
    | [w0, w1], _ => exact ⟨w0, w1, rfl⟩
  have hw := fun d (hd : d ∈ tables_1) => atoms_spec (ws := Jvm.Cond.code x code maxLocals ret :: tables_1) hat d (List.mem_cons_of_mem _ hd)
  have hfit : Fit s := fun {y c} hc i hi => by
    obtain ⟨ha, rfl⟩ := Array.getElem?_eq_some_iff.mp hc
    have q := List.all_eq_true.mp ((Array.all_eq_true_iff_forall_mem.mp hF) _ (Array.getElem_mem ha)) i (List.mem_range.mpr hi)
    simpa [Array.getElem?_eq_getElem hi] using q
  obtain ⟨i0, ei0⟩ := is_v g3
  obtain rfl : w0 = (.int i0) := Option.some.inj ei0
  obtain ⟨i1, ei1⟩ := is_v g4
  obtain rfl : w1 = (.int i1) := Option.some.inj ei1
  obtain ⟨hn1, hn2⟩ := and_e hn
  obtain ⟨hn21, hn22⟩ := and_e hn2
  obtain ⟨hn221, hn222⟩ := and_e hn22
  obtain ⟨hn2221, hn2222⟩ := and_e hn222
  obtain ⟨hn22221, hn22222⟩ := and_e hn2222
  obtain ⟨hn222221, hn222222⟩ := and_e hn22222
  obtain ⟨hn2222221, hn2222222⟩ := and_e hn222222
  obtain ⟨hn22222221, hn22222222⟩ := and_e hn2222222
  obtain ⟨hn222222221, hn222222222⟩ := and_e hn22222222
  obtain ⟨hn2222222221, hn2222222222⟩ := and_e hn222222222
  obtain ⟨hn22222222221, hn22222222222⟩ := and_e hn2222222222
  obtain ⟨hn222222222221, hn222222222222⟩ := and_e hn22222222222
  obtain ⟨hn2222222222221, hn2222222222222⟩ := and_e hn222222222222
  obtain ⟨hn22222222222221, hn22222222222222⟩ := and_e hn2222222222222
  obtain ⟨hn222222222222221, hn222222222222222⟩ := and_e hn22222222222222
  obtain ⟨hn2222222222222221, hn2222222222222222⟩ := and_e hn222222222222222
  obtain ⟨hn22222222222222221, hn22222222222222222⟩ := and_e hn2222222222222222
  obtain ⟨hn222222222222222221, hn222222222222222222⟩ := and_e hn22222222222222222
  obtain ⟨hn2222222222222222221, hn2222222222222222222⟩ := and_e hn222222222222222222
  obtain ⟨hn22222222222222222221, hn22222222222222222222⟩ := and_e hn2222222222222222222
  obtain ⟨hn222222222222222222221, hn222222222222222222222⟩ := and_e hn22222222222222222222
  obtain ⟨hn2222222222222222222221, hn2222222222222222222222⟩ := and_e hn222222222222222222222
  obtain ⟨hn22222222222222222222221, hn22222222222222222222222⟩ := and_e hn2222222222222222222222
  obtain ⟨hn222222222222222222222221, hn222222222222222222222222⟩ := and_e hn22222222222222222222222
  obtain ⟨hn2222222222222222222222221, hn2222222222222222222222222⟩ := and_e hn222222222222222222222222
  obtain ⟨hn22222222222222222222222221, hn22222222222222222222222222⟩ := and_e hn2222222222222222222222222
  obtain ⟨hn222222222222222222222222221, hn222222222222222222222222222⟩ := and_e hn22222222222222222222222222
  obtain ⟨hn2222222222222222222222222221, hn2222222222222222222222222222⟩ := and_e hn222222222222222222222222222
  obtain ⟨hn22222222222222222222222222221, hn22222222222222222222222222222⟩ := and_e hn2222222222222222222222222222
  obtain ⟨hn222222222222222222222222222221, hn222222222222222222222222222222⟩ := and_e hn22222222222222222222222222222
  obtain ⟨hn2222222222222222222222222222221, hn2222222222222222222222222222222⟩ := and_e hn222222222222222222222222222222
  obtain ⟨hn22222222222222222222222222222221, hn22222222222222222222222222222222⟩ := and_e hn2222222222222222222222222222222
  obtain ⟨hn222222222222222222222222222222221, hn222222222222222222222222222222222⟩ := and_e hn22222222222222222222222222222222
  obtain ⟨a_MEDIA, ev_MEDIA⟩ := exa_v hn1
  have S_MEDIA : Sta s s.heap "com/example/trailcaster/trailcaster/model/ExportTrigger" "MEDIA" "Lcom/example/trailcaster/trailcaster/model/ExportTrigger;" (.ref a_MEDIA) := Sta.start ev_MEDIA (Or.inr ⟨(hw _ (List.mem_of_getElem? (i := 1) rfl)), (hw _ (List.mem_of_getElem? (i := 2) rfl))⟩)
  have X_MEDIA : Exa s s.heap a_MEDIA "com/example/trailcaster/trailcaster/model/ExportTrigger" := Exa.start ev_MEDIA hn1
  obtain ⟨a_EMAIL, ev_EMAIL⟩ := exa_v hn21
  have S_EMAIL : Sta s s.heap "com/example/trailcaster/trailcaster/model/MediaType" "EMAIL" "Lcom/example/trailcaster/trailcaster/model/MediaType;" (.ref a_EMAIL) := Sta.start ev_EMAIL (Or.inr ⟨(hw _ (List.mem_of_getElem? (i := 9) rfl)), (hw _ (List.mem_of_getElem? (i := 10) rfl))⟩)
  have X_EMAIL : Exa s s.heap a_EMAIL "com/example/trailcaster/trailcaster/model/MediaType" := Exa.start ev_EMAIL hn21
  obtain ⟨a_DVD, ev_DVD⟩ := exa_v hn2221
  have S_DVD : Sta s s.heap "com/example/trailcaster/trailcaster/model/MediaType" "DVD" "Lcom/example/trailcaster/trailcaster/model/MediaType;" (.ref a_DVD) := Sta.start ev_DVD (Or.inr ⟨(hw _ (List.mem_of_getElem? (i := 9) rfl)), (hw _ (List.mem_of_getElem? (i := 19) rfl))⟩)
  have X_DVD : Exa s s.heap a_DVD "com/example/trailcaster/trailcaster/model/MediaType" := Exa.start ev_DVD hn2221
  obtain ⟨a_URI, ev_URI⟩ := exa_v hn2222221
  have S_URI : Sta s s.heap "com/example/trailcaster/trailcaster/model/MediaType" "URI" "Lcom/example/trailcaster/trailcaster/model/MediaType;" (.ref a_URI) := Sta.start ev_URI (Or.inr ⟨(hw _ (List.mem_of_getElem? (i := 9) rfl)), (hw _ (List.mem_of_getElem? (i := 21) rfl))⟩)
  have X_URI : Exa s s.heap a_URI "com/example/trailcaster/trailcaster/model/MediaType" := Exa.start ev_URI hn2222221
  obtain ⟨a_SD, ev_SD⟩ := exa_v hn222222221
  have S_SD : Sta s s.heap "com/example/trailcaster/trailcaster/model/MediaType" "SD" "Lcom/example/trailcaster/trailcaster/model/MediaType;" (.ref a_SD) := Sta.start ev_SD (Or.inr ⟨(hw _ (List.mem_of_getElem? (i := 9) rfl)), (hw _ (List.mem_of_getElem? (i := 23) rfl))⟩)
  have X_SD : Exa s s.heap a_SD "com/example/trailcaster/trailcaster/model/MediaType" := Exa.start ev_SD hn222222221
  obtain ⟨a_CD, ev_CD⟩ := exa_v hn22222222221
  have S_CD : Sta s s.heap "com/example/trailcaster/trailcaster/model/MediaType" "CD" "Lcom/example/trailcaster/trailcaster/model/MediaType;" (.ref a_CD) := Sta.start ev_CD (Or.inr ⟨(hw _ (List.mem_of_getElem? (i := 9) rfl)), (hw _ (List.mem_of_getElem? (i := 25) rfl))⟩)
  have X_CD : Exa s s.heap a_CD "com/example/trailcaster/trailcaster/model/MediaType" := Exa.start ev_CD hn22222222221
  obtain ⟨a_XDS_I_SUBMISSION, ev_XDS_I_SUBMISSION⟩ := exa_v hn2222222222221
  have S_XDS_I_SUBMISSION : Sta s s.heap "com/example/trailcaster/trailcaster/model/ExportTrigger" "XDS_I_SUBMISSION" "Lcom/example/trailcaster/trailcaster/model/ExportTrigger;" (.ref a_XDS_I_SUBMISSION) := Sta.start ev_XDS_I_SUBMISSION (Or.inr ⟨(hw _ (List.mem_of_getElem? (i := 1) rfl)), (hw _ (List.mem_of_getElem? (i := 27) rfl))⟩)
  have X_XDS_I_SUBMISSION : Exa s s.heap a_XDS_I_SUBMISSION "com/example/trailcaster/trailcaster/model/ExportTrigger" := Exa.start ev_XDS_I_SUBMISSION hn2222222222221
  obtain ⟨a_MMC, ev_MMC⟩ := exa_v hn2222222222222221
  have S_MMC : Sta s s.heap "com/example/trailcaster/trailcaster/model/MediaType" "MMC" "Lcom/example/trailcaster/trailcaster/model/MediaType;" (.ref a_MMC) := Sta.start ev_MMC (Or.inr ⟨(hw _ (List.mem_of_getElem? (i := 9) rfl)), (hw _ (List.mem_of_getElem? (i := 36) rfl))⟩)
  have X_MMC : Exa s s.heap a_MMC "com/example/trailcaster/trailcaster/model/MediaType" := Exa.start ev_MMC hn2222222222222221
  obtain ⟨a_PAPER, ev_PAPER⟩ := exa_v hn22222222222222222221
  have S_PAPER : Sta s s.heap "com/example/trailcaster/trailcaster/model/MediaType" "PAPER" "Lcom/example/trailcaster/trailcaster/model/MediaType;" (.ref a_PAPER) := Sta.start ev_PAPER (Or.inr ⟨(hw _ (List.mem_of_getElem? (i := 9) rfl)), (hw _ (List.mem_of_getElem? (i := 38) rfl))⟩)
  have X_PAPER : Exa s s.heap a_PAPER "com/example/trailcaster/trailcaster/model/MediaType" := Exa.start ev_PAPER hn22222222222222222221
  obtain ⟨a_USB, ev_USB⟩ := exa_v hn22222222222222222222221
  have S_USB : Sta s s.heap "com/example/trailcaster/trailcaster/model/MediaType" "USB" "Lcom/example/trailcaster/trailcaster/model/MediaType;" (.ref a_USB) := Sta.start ev_USB (Or.inr ⟨(hw _ (List.mem_of_getElem? (i := 9) rfl)), (hw _ (List.mem_of_getElem? (i := 40) rfl))⟩)
  have X_USB : Exa s s.heap a_USB "com/example/trailcaster/trailcaster/model/MediaType" := Exa.start ev_USB hn22222222222222222222221
  obtain ⟨a_COMPACT_FLASH, ev_COMPACT_FLASH⟩ := exa_v hn222222222222222222222222221
  have S_COMPACT_FLASH : Sta s s.heap "com/example/trailcaster/trailcaster/model/MediaType" "COMPACT_FLASH" "Lcom/example/trailcaster/trailcaster/model/MediaType;" (.ref a_COMPACT_FLASH) := Sta.start ev_COMPACT_FLASH (Or.inr ⟨(hw _ (List.mem_of_getElem? (i := 9) rfl)), (hw _ (List.mem_of_getElem? (i := 42) rfl))⟩)
  have X_COMPACT_FLASH : Exa s s.heap a_COMPACT_FLASH "com/example/trailcaster/trailcaster/model/MediaType" := Exa.start ev_COMPACT_FLASH hn222222222222222222222222221
  obtain ⟨a_FILM, ev_FILM⟩ := exa_v hn22222222222222222222222222222221
  have S_FILM : Sta s s.heap "com/example/trailcaster/trailcaster/model/MediaType" "FILM" "Lcom/example/trailcaster/trailcaster/model/MediaType;" (.ref a_FILM) := Sta.start ev_FILM (Or.inr ⟨(hw _ (List.mem_of_getElem? (i := 9) rfl)), (hw _ (List.mem_of_getElem? (i := 44) rfl))⟩)
  have X_FILM : Exa s s.heap a_FILM "com/example/trailcaster/trailcaster/model/MediaType" := Exa.start ev_FILM hn22222222222222222222222222222221
  have F_MEDIA_overNetworkOnly : Fld s s.heap a_MEDIA "com/example/trailcaster/trailcaster/model/ExportTrigger" "overNetworkOnly" "Z" (.int (0 : Int32)) := own_fldI hn221 ev_MEDIA
  have F_DVD_ordinal : Fld s s.heap a_DVD "java/lang/Enum" "ordinal" "I" (.int (1 : Int32)) := own_fldI hn22221 ev_DVD
  have F_EMAIL_ordinal : Fld s s.heap a_EMAIL "java/lang/Enum" "ordinal" "I" (.int (3 : Int32)) := own_fldI hn222221 ev_EMAIL
  have F_URI_ordinal : Fld s s.heap a_URI "java/lang/Enum" "ordinal" "I" (.int (7 : Int32)) := own_fldI hn22222221 ev_URI
  have F_SD_ordinal : Fld s s.heap a_SD "java/lang/Enum" "ordinal" "I" (.int (6 : Int32)) := own_fldI hn2222222221 ev_SD
  have F_CD_ordinal : Fld s s.heap a_CD "java/lang/Enum" "ordinal" "I" (.int (0 : Int32)) := own_fldI hn222222222221 ev_CD
  have F_XDS_I_SUBMISSION_overNetworkOnly : Fld s s.heap a_XDS_I_SUBMISSION "com/example/trailcaster/trailcaster/model/ExportTrigger" "overNetworkOnly" "Z" (.int (1 : Int32)) := own_fldI hn22222222222221 ev_XDS_I_SUBMISSION
  have F_EMAIL_overNetwork : Fld s s.heap a_EMAIL "com/example/trailcaster/trailcaster/model/MediaType" "overNetwork" "Z" (.int (1 : Int32)) := own_fldI hn222222222222221 ev_EMAIL
  have F_MMC_ordinal : Fld s s.heap a_MMC "java/lang/Enum" "ordinal" "I" (.int (5 : Int32)) := own_fldI hn22222222222222221 ev_MMC
  have F_CD_overNetwork : Fld s s.heap a_CD "com/example/trailcaster/trailcaster/model/MediaType" "overNetwork" "Z" (.int (0 : Int32)) := own_fldI hn222222222222222221 ev_CD
  have F_DVD_overNetwork : Fld s s.heap a_DVD "com/example/trailcaster/trailcaster/model/MediaType" "overNetwork" "Z" (.int (0 : Int32)) := own_fldI hn2222222222222222221 ev_DVD
  have F_PAPER_ordinal : Fld s s.heap a_PAPER "java/lang/Enum" "ordinal" "I" (.int (9 : Int32)) := own_fldI hn222222222222222222221 ev_PAPER
  have F_PAPER_overNetwork : Fld s s.heap a_PAPER "com/example/trailcaster/trailcaster/model/MediaType" "overNetwork" "Z" (.int (0 : Int32)) := own_fldI hn2222222222222222222221 ev_PAPER
  have F_USB_ordinal : Fld s s.heap a_USB "java/lang/Enum" "ordinal" "I" (.int (2 : Int32)) := own_fldI hn222222222222222222222221 ev_USB
  have F_USB_overNetwork : Fld s s.heap a_USB "com/example/trailcaster/trailcaster/model/MediaType" "overNetwork" "Z" (.int (0 : Int32)) := own_fldI hn2222222222222222222222221 ev_USB
  have F_URI_overNetwork : Fld s s.heap a_URI "com/example/trailcaster/trailcaster/model/MediaType" "overNetwork" "Z" (.int (1 : Int32)) := own_fldI hn22222222222222222222222221 ev_URI
  have F_COMPACT_FLASH_ordinal : Fld s s.heap a_COMPACT_FLASH "java/lang/Enum" "ordinal" "I" (.int (4 : Int32)) := own_fldI hn2222222222222222222222222221 ev_COMPACT_FLASH
  have F_MMC_overNetwork : Fld s s.heap a_MMC "com/example/trailcaster/trailcaster/model/MediaType" "overNetwork" "Z" (.int (0 : Int32)) := own_fldI hn22222222222222222222222222221 ev_MMC
  have F_COMPACT_FLASH_overNetwork : Fld s s.heap a_COMPACT_FLASH "com/example/trailcaster/trailcaster/model/MediaType" "overNetwork" "Z" (.int (0 : Int32)) := own_fldI hn222222222222222222222222222221 ev_COMPACT_FLASH
  have F_SD_overNetwork : Fld s s.heap a_SD "com/example/trailcaster/trailcaster/model/MediaType" "overNetwork" "Z" (.int (0 : Int32)) := own_fldI hn2222222222222222222222222222221 ev_SD
  have F_FILM_ordinal : Fld s s.heap a_FILM "java/lang/Enum" "ordinal" "I" (.int (8 : Int32)) := own_fldI hn222222222222222222222222222222221 ev_FILM
  have F_FILM_overNetwork : Fld s s.heap a_FILM "com/example/trailcaster/trailcaster/model/MediaType" "overNetwork" "Z" (.int (0 : Int32)) := own_fldI hn222222222222222222222222222222222 ev_FILM
  obtain ⟨n, o, h1, h2, h3, _, L, rfl, ⟨rfl, N, -⟩, hq⟩ := rm_law l s _ hw tables_1 i0 i1 a_MEDIA a_EMAIL a_DVD a_URI a_SD a_CD a_XDS_I_SUBMISSION a_MMC a_PAPER a_USB a_COMPACT_FLASH a_FILM s.heap ⟨Nat.le_refl _, fun _ _ q => q⟩ ⟨S_MEDIA, X_MEDIA, S_EMAIL, X_EMAIL, S_DVD, X_DVD, S_URI, X_URI, S_SD, X_SD, S_CD, X_CD, S_XDS_I_SUBMISSION, X_XDS_I_SUBMISSION, S_MMC, X_MMC, S_PAPER, X_PAPER, S_USB, X_USB, S_COMPACT_FLASH, X_COMPACT_FLASH, S_FILM, X_FILM, F_MEDIA_overNetworkOnly, F_DVD_ordinal, F_EMAIL_ordinal, F_URI_ordinal, F_SD_ordinal, F_CD_ordinal, F_XDS_I_SUBMISSION_overNetworkOnly, F_EMAIL_overNetwork, F_MMC_ordinal, F_CD_overNetwork, F_DVD_overNetwork, F_PAPER_ordinal, F_PAPER_overNetwork, F_USB_ordinal, F_USB_overNetwork, F_URI_overNetwork, F_COMPACT_FLASH_ordinal, F_MMC_overNetwork, F_COMPACT_FLASH_overNetwork, F_SD_overNetwork, F_FILM_ordinal, F_FILM_overNetwork⟩  p e ha hc hk s m _ below hf ((Spec.applies_iff_loose hf).mp happ).1 ⟨rfl, State.Warmed39.refl s, rfl⟩ trivial
  refine ⟨n, _, h1, h2, h3, hpost _ _ _ _ _ _ ⟨Cond.after_iff.mpr rfl, Cond.after_iff.mpr (eq_i res_at (Term.int_eval (1)) rfl), trivial⟩ ⟨hq.1, hq.2.1, (hq.2.2.sift fun y hy => Or.inr (N y hy)).mono (by decide) (by decide)⟩⟩
theorem main_1_1 : Claimed_1_1 := comes_1 fun _ _ _ _ _ _ h hF => ⟨h.1, hF⟩
theorem main_1_2 : Claimed_1_2 := comes_1 fun _ _ _ _ _ _ h hF => ⟨h.2.1, hF⟩
end Jvm.Pilot.@@N@@
namespace Jvm.Pilot.@@N@@
open Jvm Jvm.ClassFile Sem Op Lib Jvm.Free Jvm.Stand Jvm.Pilot.@@N@@.Jvm.D
/-! MADE BY PROGRAM (witnessworld.py) out of the Statement's table words and the real class files: 13 classes; the members and pool entries that the words name. The judged class is class 1, her method 2. -/
namespace start1
open Jvm.ClassFile
def u (s : String) : CpInfo := .utf8 (stringToUtf16 s)
/-- a pool by its gaps: so many unusable entries, then the entry; so many at the end -/
def gap : Nat → List CpInfo → List CpInfo
  | 0, r => r
  | n + 1, r => .unusable :: gap n r
def poolList (es : List (Nat × CpInfo)) (last : Nat) : List CpInfo := es.foldr (fun e r => gap e.1 (e.2 :: r)) (gap last [])
def pool (es : List (Nat × CpInfo)) (last : Nat) : Array CpInfo := ⟨poolList es last⟩
def fileOf (pool : Array CpInfo) (this : Nat) (attrs : Array Attribute := #[]) (ms : Array MethodInfo := #[]) (fl : Nat := 33) (sup : Nat := 0) (ifs : Array Nat := #[]) (fds : Array FieldInfo := #[]) : ClassFile where
  minorVersion := 0
  majorVersion := 65
  constantPool := pool
  accessFlags := fl
  thisClass := this
  superClass := sup
  interfaces := ifs
  fields := fds
  methods := ms
  attributes := attrs
def plain (name : String) (sup : Option ClassId) : Class where
  name := name
  kind := .ordinary
  loader := none
  accessFlags := 33
  super := sup
  interfaces := #[]
  cf := none
  fields := #[]
  methods := #[]
  instanceTypes := #[]
  staticTypes := #[]
  resolved := #[]
  callSites := []
  init := .initialized
  statics := none
  mirror := none

def pool0 : Array CpInfo := pool [(5, u "<init>"), (0, u "()V"), (1, .class_ 10), (1, u "java/lang/Object")] 113

def k0m0 : Method := { name := "<init>", desc := "()V", sig := { parameters := [], returnType := none }, accessFlags := 1, code := none }
/-- java/lang/Object -/
def k0 : Class := { plain "java/lang/Object" none with
  accessFlags := 33
  interfaces := #[]
  cf := some (fileOf pool0 8 #[] #[{ accessFlags := 1, nameIndex := 5, descriptorIndex := 6, attributes := #[] }] 33 0 #[] #[])
  fields := #[]
  methods := #[k0m0]
  instanceTypes := #[]
  staticTypes := #[]
  resolved := Array.replicate 124 none
  statics := none }

def pool1 : Array CpInfo := pool [(2, .class_ 4), (1, u "java/lang/Object"), (0, u "<init>"), (0, u "()V"), (0, .fieldref 8 9), (0, .class_ 10), (0, .nameAndType 11 12), (0, u "com/example/trailcaster/trailcaster/model/MediaType"), (0, u "CD"), (0, u "Lcom/example/trailcaster/trailcaster/model/MediaType;"), (0, .fieldref 8 14), (0, .nameAndType 15 12), (0, u "DVD"), (0, .fieldref 8 17), (0, .nameAndType 18 12), (0, u "USB"), (0, .fieldref 8 20), (0, .nameAndType 21 12), (0, u "EMAIL"), (0, .fieldref 8 23), (0, .nameAndType 24 12), (0, u "COMPACT_FLASH"), (0, .fieldref 8 26), (0, .nameAndType 27 12), (0, u "MMC"), (0, .fieldref 8 29), (0, .nameAndType 30 12), (0, u "SD"), (0, .fieldref 8 32), (0, .nameAndType 33 12), (0, u "URI"), (0, .fieldref 8 35), (0, .nameAndType 36 12), (0, u "FILM"), (0, .fieldref 8 38), (0, .nameAndType 39 12), (0, u "PAPER"), (0, .fieldref 41 42), (0, .class_ 43), (0, .nameAndType 44 45), (0, u "com/example/trailcaster/trailcaster/model/ExportTrigger"), (0, u "XDS_I_SUBMISSION"), (0, u "Lcom/example/trailcaster/trailcaster/model/ExportTrigger;"), (0, .fieldref 41 47), (0, .nameAndType 48 45), (0, u "MEDIA"), (0, .integer 2147483647), (0, .methodref 51 52), (0, .class_ 53), (0, .nameAndType 54 55), (0, u "com/example/trailcaster/trailcaster/model/ExportTriggerTakesPinLaw"), (0, u "mediaOf"), (0, u "(I)Lcom/example/trailcaster/trailcaster/model/MediaType;"), (0, .methodref 41 57), (0, .nameAndType 58 59), (0, u "takes"), (0, u "(Lcom/example/trailcaster/trailcaster/model/MediaType;)Z"), (3, u "law"), (0, u "(II)Z")] 2

def k1m0 : Method := { name := "<init>", desc := "()V", sig := { parameters := [], returnType := none }, accessFlags := 2, code := none }
def k1c1 : Code := { maxStack := 2, maxLocals := 1, code := method_2_code, exceptionTable := #[], attributes := #[] }
def k1m1 : Method := { name := "mediaOf", desc := "(I)Lcom/example/trailcaster/trailcaster/model/MediaType;", sig := { parameters := [.int], returnType := some (.object "com/example/trailcaster/trailcaster/model/MediaType") }, accessFlags := 10, code := some k1c1 }
def k1c2 : Code := { maxStack := 2, maxLocals := 8, code := code, exceptionTable := #[], attributes := #[] }
def k1m2 : Method := { name := "law", desc := "(II)Z", sig := { parameters := [.int, .int], returnType := some .boolean }, accessFlags := 9, code := some k1c2 }
/-- com/example/trailcaster/trailcaster/model/ExportTriggerTakesPinLaw -/
def k1 : Class := { plain "com/example/trailcaster/trailcaster/model/ExportTriggerTakesPinLaw" (some 0) with
  accessFlags := 49
  interfaces := #[]
  cf := some (fileOf pool1 51 #[] #[{ accessFlags := 2, nameIndex := 5, descriptorIndex := 6, attributes := #[] }, { accessFlags := 10, nameIndex := 54, descriptorIndex := 55, attributes := #[] }, { accessFlags := 9, nameIndex := 63, descriptorIndex := 64, attributes := #[] }] 49 2 #[] #[])
  fields := #[]
  methods := #[k1m0, k1m1, k1m2]
  instanceTypes := #[]
  staticTypes := #[]
  resolved := Array.replicate 67 none
  statics := none }

def pool2 : Array CpInfo := pool [(1, .class_ 2), (0, u "java/lang/constant/Constable"), (0, .class_ 4), (0, u "java/lang/Object")] 6

/-- java/lang/constant/Constable -/
def k2 : Class := { plain "java/lang/constant/Constable" (some 0) with
  accessFlags := 1537
  interfaces := #[]
  cf := some (fileOf pool2 1 #[] #[] 1537 3 #[] #[])
  fields := #[]
  methods := #[]
  instanceTypes := #[]
  staticTypes := #[]
  resolved := Array.replicate 11 none
  statics := none }

def pool3 : Array CpInfo := pool [(1, .class_ 2), (0, u "java/lang/Comparable"), (0, .class_ 4), (0, u "java/lang/Object")] 7

/-- java/lang/Comparable -/
def k3 : Class := { plain "java/lang/Comparable" (some 0) with
  accessFlags := 1537
  interfaces := #[]
  cf := some (fileOf pool3 1 #[] #[] 1537 3 #[] #[])
  fields := #[]
  methods := #[]
  instanceTypes := #[]
  staticTypes := #[]
  resolved := Array.replicate 12 none
  statics := none }

def pool4 : Array CpInfo := pool [(1, .class_ 2), (0, u "java/io/Serializable"), (0, .class_ 4), (0, u "java/lang/Object")] 2

/-- java/io/Serializable -/
def k4 : Class := { plain "java/io/Serializable" (some 0) with
  accessFlags := 1537
  interfaces := #[]
  cf := some (fileOf pool4 1 #[] #[] 1537 3 #[] #[])
  fields := #[]
  methods := #[]
  instanceTypes := #[]
  staticTypes := #[]
  resolved := Array.replicate 7 none
  statics := none }

def pool5 : Array CpInfo := pool [(2, .class_ 4), (1, u "java/lang/Enum"), (0, u "name"), (0, u "Ljava/lang/String;"), (2, u "ordinal"), (0, u "I"), (1, .class_ 14), (1, u "java/lang/Object"), (4, u "hash"), (86, .class_ 108), (1, u "java/lang/Enum$EnumDesc"), (2, .class_ 112), (0, u "java/lang/constant/Constable"), (0, .class_ 114), (0, u "java/lang/Comparable"), (0, .class_ 116), (0, u "java/io/Serializable")] 87

/-- java/lang/Enum -/
def k5 : Class := { plain "java/lang/Enum" (some 0) with
  accessFlags := 1057
  interfaces := #[2, 3, 4]
  cf := some (fileOf pool5 2 #[.nestMembers #[106]] #[] 1057 12 #[111, 113, 115] #[{ accessFlags := 18, nameIndex := 5, descriptorIndex := 6, attributes := #[] }, { accessFlags := 18, nameIndex := 9, descriptorIndex := 10, attributes := #[] }, { accessFlags := 2, nameIndex := 19, descriptorIndex := 10, attributes := #[] }])
  fields := #[{ name := "name", type := (.object "java/lang/String"), accessFlags := 18, slot := 0, constantValue := 0 }, { name := "ordinal", type := .int, accessFlags := 18, slot := 1, constantValue := 0 }, { name := "hash", type := .int, accessFlags := 2, slot := 2, constantValue := 0 }]
  methods := #[]
  instanceTypes := #[(.object "java/lang/String"), .int, .int]
  staticTypes := #[]
  resolved := Array.replicate 204 none
  statics := none }

def pool6 : Array CpInfo := pool [(1, .class_ 2), (0, u "com/example/trailcaster/trailcaster/model/ExportTrigger"), (2, u "MEDIA"), (0, u "Lcom/example/trailcaster/trailcaster/model/ExportTrigger;"), (2, u "XDS_I_SUBMISSION"), (2, u "$VALUES"), (0, u "[Lcom/example/trailcaster/trailcaster/model/ExportTrigger;"), (6, .class_ 22), (1, u "java/lang/Enum"), (8, u "eventName"), (0, u "Ljava/lang/String;"), (0, .fieldref 1 34), (0, .nameAndType 35 36), (0, u "overNetworkOnly"), (0, u "Z"), (0, .methodref 38 39), (0, .class_ 40), (0, .nameAndType 41 42), (0, u "com/example/trailcaster/trailcaster/model/MediaType"), (0, u "overNetwork"), (0, u "()Z"), (21, u "takes"), (0, u "(Lcom/example/trailcaster/trailcaster/model/MediaType;)Z")] 6

def k6c0 : Code := { maxStack := 1, maxLocals := 2, code := prog_54_method_5_code, exceptionTable := #[], attributes := #[] }
def k6m0 : Method := { name := "takes", desc := "(Lcom/example/trailcaster/trailcaster/model/MediaType;)Z", sig := { parameters := [(.object "com/example/trailcaster/trailcaster/model/MediaType")], returnType := some .boolean }, accessFlags := 1, code := some k6c0 }
/-- com/example/trailcaster/trailcaster/model/ExportTrigger -/
def k6 : Class := { plain "com/example/trailcaster/trailcaster/model/ExportTrigger" (some 5) with
  accessFlags := 16433
  interfaces := #[]
  cf := some (fileOf pool6 1 #[] #[{ accessFlags := 1, nameIndex := 64, descriptorIndex := 65, attributes := #[] }] 16433 20 #[] #[{ accessFlags := 16409, nameIndex := 5, descriptorIndex := 6, attributes := #[] }, { accessFlags := 16409, nameIndex := 9, descriptorIndex := 6, attributes := #[] }, { accessFlags := 18, nameIndex := 31, descriptorIndex := 32, attributes := #[] }, { accessFlags := 18, nameIndex := 35, descriptorIndex := 36, attributes := #[] }, { accessFlags := 4122, nameIndex := 12, descriptorIndex := 13, attributes := #[] }])
  fields := #[{ name := "MEDIA", type := (.object "com/example/trailcaster/trailcaster/model/ExportTrigger"), accessFlags := 16409, slot := 0, constantValue := 0 }, { name := "XDS_I_SUBMISSION", type := (.object "com/example/trailcaster/trailcaster/model/ExportTrigger"), accessFlags := 16409, slot := 1, constantValue := 0 }, { name := "eventName", type := (.object "java/lang/String"), accessFlags := 18, slot := 3, constantValue := 0 }, { name := "overNetworkOnly", type := .boolean, accessFlags := 18, slot := 4, constantValue := 0 }, { name := "$VALUES", type := (.array (.object "com/example/trailcaster/trailcaster/model/ExportTrigger")), accessFlags := 4122, slot := 2, constantValue := 0 }]
  methods := #[k6m0]
  instanceTypes := #[(.object "java/lang/String"), .int, .int, (.object "java/lang/String"), .boolean]
  staticTypes := #[(.object "com/example/trailcaster/trailcaster/model/ExportTrigger"), (.object "com/example/trailcaster/trailcaster/model/ExportTrigger"), (.array (.object "com/example/trailcaster/trailcaster/model/ExportTrigger"))]
  resolved := Array.replicate 72 none
  statics := some 0 }

def pool7 : Array CpInfo := pool [(1, .class_ 2), (0, u "com/example/trailcaster/trailcaster/model/MediaType"), (2, u "CD"), (0, u "Lcom/example/trailcaster/trailcaster/model/MediaType;"), (2, u "DVD"), (2, u "USB"), (2, u "EMAIL"), (2, u "COMPACT_FLASH"), (2, u "MMC"), (2, u "SD"), (2, u "URI"), (2, u "FILM"), (2, u "PAPER"), (2, u "$VALUES"), (0, u "[Lcom/example/trailcaster/trailcaster/model/MediaType;"), (6, .class_ 46), (1, u "java/lang/Enum"), (8, u "eventName"), (0, u "Ljava/lang/String;"), (9, u "code"), (0, u "Lcom/example/trailcaster/trailcaster/model/CodedValue;"), (0, .fieldref 1 69), (0, .nameAndType 70 71), (0, u "overNetwork"), (0, u "Z"), (80, u "()Z")] 5

def k7c0 : Code := { maxStack := 1, maxLocals := 1, code := prog_63_method_6_code, exceptionTable := #[], attributes := #[] }
def k7m0 : Method := { name := "overNetwork", desc := "()Z", sig := { parameters := [], returnType := some .boolean }, accessFlags := 1, code := some k7c0 }
/-- com/example/trailcaster/trailcaster/model/MediaType -/
def k7 : Class := { plain "com/example/trailcaster/trailcaster/model/MediaType" (some 5) with
  accessFlags := 16433
  interfaces := #[]
  cf := some (fileOf pool7 1 #[] #[{ accessFlags := 1, nameIndex := 70, descriptorIndex := 152, attributes := #[] }] 16433 44 #[] #[{ accessFlags := 16409, nameIndex := 5, descriptorIndex := 6, attributes := #[] }, { accessFlags := 16409, nameIndex := 9, descriptorIndex := 6, attributes := #[] }, { accessFlags := 16409, nameIndex := 12, descriptorIndex := 6, attributes := #[] }, { accessFlags := 16409, nameIndex := 15, descriptorIndex := 6, attributes := #[] }, { accessFlags := 16409, nameIndex := 18, descriptorIndex := 6, attributes := #[] }, { accessFlags := 16409, nameIndex := 21, descriptorIndex := 6, attributes := #[] }, { accessFlags := 16409, nameIndex := 24, descriptorIndex := 6, attributes := #[] }, { accessFlags := 16409, nameIndex := 27, descriptorIndex := 6, attributes := #[] }, { accessFlags := 16409, nameIndex := 30, descriptorIndex := 6, attributes := #[] }, { accessFlags := 16409, nameIndex := 33, descriptorIndex := 6, attributes := #[] }, { accessFlags := 18, nameIndex := 55, descriptorIndex := 56, attributes := #[] }, { accessFlags := 18, nameIndex := 66, descriptorIndex := 67, attributes := #[] }, { accessFlags := 18, nameIndex := 70, descriptorIndex := 71, attributes := #[] }, { accessFlags := 4122, nameIndex := 36, descriptorIndex := 37, attributes := #[] }])
  fields := #[{ name := "CD", type := (.object "com/example/trailcaster/trailcaster/model/MediaType"), accessFlags := 16409, slot := 0, constantValue := 0 }, { name := "DVD", type := (.object "com/example/trailcaster/trailcaster/model/MediaType"), accessFlags := 16409, slot := 1, constantValue := 0 }, { name := "USB", type := (.object "com/example/trailcaster/trailcaster/model/MediaType"), accessFlags := 16409, slot := 2, constantValue := 0 }, { name := "EMAIL", type := (.object "com/example/trailcaster/trailcaster/model/MediaType"), accessFlags := 16409, slot := 3, constantValue := 0 }, { name := "COMPACT_FLASH", type := (.object "com/example/trailcaster/trailcaster/model/MediaType"), accessFlags := 16409, slot := 4, constantValue := 0 }, { name := "MMC", type := (.object "com/example/trailcaster/trailcaster/model/MediaType"), accessFlags := 16409, slot := 5, constantValue := 0 }, { name := "SD", type := (.object "com/example/trailcaster/trailcaster/model/MediaType"), accessFlags := 16409, slot := 6, constantValue := 0 }, { name := "URI", type := (.object "com/example/trailcaster/trailcaster/model/MediaType"), accessFlags := 16409, slot := 7, constantValue := 0 }, { name := "FILM", type := (.object "com/example/trailcaster/trailcaster/model/MediaType"), accessFlags := 16409, slot := 8, constantValue := 0 }, { name := "PAPER", type := (.object "com/example/trailcaster/trailcaster/model/MediaType"), accessFlags := 16409, slot := 9, constantValue := 0 }, { name := "eventName", type := (.object "java/lang/String"), accessFlags := 18, slot := 3, constantValue := 0 }, { name := "code", type := (.object "com/example/trailcaster/trailcaster/model/CodedValue"), accessFlags := 18, slot := 4, constantValue := 0 }, { name := "overNetwork", type := .boolean, accessFlags := 18, slot := 5, constantValue := 0 }, { name := "$VALUES", type := (.array (.object "com/example/trailcaster/trailcaster/model/MediaType")), accessFlags := 4122, slot := 10, constantValue := 0 }]
  methods := #[k7m0]
  instanceTypes := #[(.object "java/lang/String"), .int, .int, (.object "java/lang/String"), (.object "com/example/trailcaster/trailcaster/model/CodedValue"), .boolean]
  staticTypes := #[(.object "com/example/trailcaster/trailcaster/model/MediaType"), (.object "com/example/trailcaster/trailcaster/model/MediaType"), (.object "com/example/trailcaster/trailcaster/model/MediaType"), (.object "com/example/trailcaster/trailcaster/model/MediaType"), (.object "com/example/trailcaster/trailcaster/model/MediaType"), (.object "com/example/trailcaster/trailcaster/model/MediaType"), (.object "com/example/trailcaster/trailcaster/model/MediaType"), (.object "com/example/trailcaster/trailcaster/model/MediaType"), (.object "com/example/trailcaster/trailcaster/model/MediaType"), (.object "com/example/trailcaster/trailcaster/model/MediaType"), (.array (.object "com/example/trailcaster/trailcaster/model/MediaType"))]
  resolved := Array.replicate 158 none
  statics := some 1 }

def pool8 : Array CpInfo := pool [(1, u "java/lang/Cloneable"), (0, .class_ 1), (0, u "java/lang/Object"), (0, .class_ 3)] 3

/-- java/lang/Cloneable -/
def k8 : Class := { plain "java/lang/Cloneable" (some 0) with
  accessFlags := 1537
  interfaces := #[]
  cf := some (fileOf pool8 2 #[] #[] 1537 4 #[] #[])
  fields := #[]
  methods := #[]
  instanceTypes := #[]
  staticTypes := #[]
  resolved := Array.replicate 8 none
  statics := none }

/-- the primitive byte -/
def k9 : Class := { plain "byte" none with kind := .primitive 'B', accessFlags := 0x411 }
/-- [B -/
def k10 : Class := { plain "[B" (some 0) with kind := .array 9 .byte, interfaces := #[8, 4], accessFlags := 1041 }

/-- the primitive int -/
def k11 : Class := { plain "int" none with kind := .primitive 'I', accessFlags := 0x411 }
/-- [I -/
def k12 : Class := { plain "[I" (some 0) with kind := .array 11 .int, interfaces := #[8, 4], accessFlags := 1041 }

def heap : Heap := #[{ cls := 6, slots := #[.ref 2, .ref 8, .null], vm := .statics 6 },
  { cls := 7, slots := #[.ref 7, .ref 4, .ref 11, .ref 3, .ref 12, .ref 9, .ref 6, .ref 5, .ref 13, .ref 10, .null], vm := .statics 7 },
  { cls := 6, slots := #[.null, .int 0, .int 0, .null, .int 0], vm := .none },
  { cls := 7, slots := #[.null, .int 3, .int 0, .null, .null, .int 1], vm := .none },
  { cls := 7, slots := #[.null, .int 1, .int 0, .null, .null, .int 0], vm := .none },
  { cls := 7, slots := #[.null, .int 7, .int 0, .null, .null, .int 1], vm := .none },
  { cls := 7, slots := #[.null, .int 6, .int 0, .null, .null, .int 0], vm := .none },
  { cls := 7, slots := #[.null, .int 0, .int 0, .null, .null, .int 0], vm := .none },
  { cls := 6, slots := #[.null, .int 0, .int 0, .null, .int 1], vm := .none },
  { cls := 7, slots := #[.null, .int 5, .int 0, .null, .null, .int 0], vm := .none },
  { cls := 7, slots := #[.null, .int 9, .int 0, .null, .null, .int 0], vm := .none },
  { cls := 7, slots := #[.null, .int 2, .int 0, .null, .null, .int 0], vm := .none },
  { cls := 7, slots := #[.null, .int 4, .int 0, .null, .null, .int 0], vm := .none },
  { cls := 7, slots := #[.null, .int 8, .int 0, .null, .null, .int 0], vm := .none }]
def classes : Array Class := #[k0, k1, k2, k3, k4, k5, k6, k7, k8, k9, k10, k11, k12]
def interned : List (Array UInt16 × Addr) := []
def slotsUsed : Nat := 84
def theMethod : MethodId := ⟨1, 2⟩
def args0 : Array Value := #[.int 1, .int 2]
def aboutOver (below : List Frame) : State where
  vm := { classes := classes, interned := interned.toArray }
  heap := heap
  slotsUsed := slotsUsed
  threads := #[{ frames := .invoking theMethod args0 :: below }]
def below0 : List Frame := [.native { method := ⟨0, 0⟩, args := #[] }]
def about1 : State := aboutOver below0
def p0 : Program := .bare "" "" ""
def e0 : Env := launch0.env 0 0 0
theorem w_frames : about1.frames = Frame.invoking theMethod args0 :: below0 := rfl
set_option maxRecDepth 65536 in
theorem w_args : argsFit about1.vm theMethod args0 = true := by decide +kernel
set_option maxRecDepth 65536 in
theorem w_heap : heapFits about1 = true := by decide +kernel
set_option maxRecDepth 65536 in
theorem w_runnable : about1.curStatus? = some .runnable := by decide +kernel
set_option maxRecDepth 65536 in
theorem w_alone : about1.alone = true := by decide +kernel
set_option maxRecDepth 65536 in
theorem w_named : about1.methodNamed? x = some theMethod := by decide +kernel
set_option maxRecDepth 65536 in
theorem w_hears : about1.hears theMethod below0 = true := by decide +kernel
set_option maxRecDepth 65536 in
theorem w_ripe : about1.ripe theMethod args0 below0 = true := by decide +kernel
theorem w_running : about1.status = .running := rfl
set_option maxRecDepth 65536 in
theorem w_room : about1.hasRoom e0.platform room_1 = true :=
  launch0.hasRoom_least _ room_1 (by decide +kernel) (by decide +kernel) (by decide +kernel) (by decide +kernel) (by decide +kernel) (by decide +kernel)
theorem allAtoms_all (ts : List Jvm.Cond) (a : Array Jvm.Value) (st : Jvm.State) : (allAtoms ts).before a st = ts.all (fun c => c.before a st) := by
  induction ts with
  | nil => rfl
  | cons c t ih =>
    show (Jvm.Cond.and c (allAtoms t)).before a st = _
    rw [Jvm.Cond.before_and, ih, List.all_cons]
def words1 : List Jvm.Cond := Jvm.Cond.code x code maxLocals ret :: tables_1
/-- a 'code' word, met by the world's own term for the bytes: nothing is compared byte by byte -/
theorem code_word {y : MethodName} {bytes : ByteArray} {mx : Nat} {rt : Option FieldType} {a : Array Value} {s : State} {m : MethodId} {meth : Method} {c : Code} (h1 : s.methodNamed? y = some m) (h2 : s.vm.method? m = some meth) (h3 : meth.code = some c) (h4 : c.code = bytes)
    (h5 : (c.maxLocals == mx && c.exceptionTable.isEmpty && decide (c.maxStack ≤ mostOperands) && decide (meth.sig.returnType = rt) && !meth.locks && decide (parseMethodDescriptor y.desc = some meth.sig)) = true) : (Jvm.Cond.code y bytes mx rt).before a s = true := by
  simp only [Bool.and_eq_true, beq_iff_eq, Bool.not_eq_true', decide_eq_true_eq] at h5
  obtain ⟨⟨⟨⟨⟨g1, g2⟩, g3⟩, g4⟩, g5⟩, g6⟩ := h5
  simp [Cond.before, Cond.holds, Cond.value, h1, h2, h3, h4, g1, g2, g3, g4, g5, g6]
def isCode : Jvm.Cond → Bool
  | .code _ _ _ _ => true
  | _ => false
theorem all_split {L : List Jvm.Cond} {P : Jvm.Cond → Bool} (h1 : L.all (fun c => isCode c || P c) = true) (h2 : ∀ c ∈ L.filter isCode, P c = true) : L.all P = true := by
  refine List.all_eq_true.mpr fun c hc => ?_
  have h := List.all_eq_true.mp h1 c hc
  rcases Bool.eq_false_or_eq_true (isCode c) with hi | hi
  · exact h2 c (List.mem_filter.mpr ⟨hc, hi⟩)
  · simpa [hi] using h
set_option maxRecDepth 65536 in
theorem w_c0 : (Jvm.Cond.code x code maxLocals ret).before args0 about1 = true := code_word (m := ⟨1, 2⟩) (meth := k1m2) (c := k1c2) (by decide +kernel) rfl rfl rfl (by decide +kernel)
set_option maxRecDepth 65536 in
theorem w_c1 : (Jvm.Cond.code ({ cls := "com/example/trailcaster/trailcaster/model/ExportTriggerTakesPinLaw", name := "mediaOf", desc := "(I)Lcom/example/trailcaster/trailcaster/model/MediaType;" } : Jvm.MethodName) method_2_code (1 : Nat) (Option.some (Jvm.ClassFile.FieldType.object "com/example/trailcaster/trailcaster/model/MediaType"))).before args0 about1 = true := code_word (m := ⟨1, 1⟩) (meth := k1m1) (c := k1c1) (by decide +kernel) rfl rfl rfl (by decide +kernel)
set_option maxRecDepth 65536 in
theorem w_c2 : (Jvm.Cond.code ({ cls := "com/example/trailcaster/trailcaster/model/ExportTrigger", name := "takes", desc := "(Lcom/example/trailcaster/trailcaster/model/MediaType;)Z" } : Jvm.MethodName) prog_54_method_5_code (2 : Nat) (Option.some Jvm.ClassFile.FieldType.boolean)).before args0 about1 = true := code_word (m := ⟨6, 0⟩) (meth := k6m0) (c := k6c0) (by decide +kernel) rfl rfl rfl (by decide +kernel)
set_option maxRecDepth 65536 in
theorem w_c3 : (Jvm.Cond.code ({ cls := "com/example/trailcaster/trailcaster/model/MediaType", name := "overNetwork", desc := "()Z" } : Jvm.MethodName) prog_63_method_6_code (1 : Nat) (Option.some Jvm.ClassFile.FieldType.boolean)).before args0 about1 = true := code_word (m := ⟨7, 0⟩) (meth := k7m0) (c := k7c0) (by decide +kernel) rfl rfl rfl (by decide +kernel)
def codes1 : List Jvm.Cond := [Jvm.Cond.code x code maxLocals ret, Jvm.Cond.code ({ cls := "com/example/trailcaster/trailcaster/model/ExportTriggerTakesPinLaw", name := "mediaOf", desc := "(I)Lcom/example/trailcaster/trailcaster/model/MediaType;" } : Jvm.MethodName) method_2_code (1 : Nat) (Option.some (Jvm.ClassFile.FieldType.object "com/example/trailcaster/trailcaster/model/MediaType")), Jvm.Cond.code ({ cls := "com/example/trailcaster/trailcaster/model/ExportTrigger", name := "takes", desc := "(Lcom/example/trailcaster/trailcaster/model/MediaType;)Z" } : Jvm.MethodName) prog_54_method_5_code (2 : Nat) (Option.some Jvm.ClassFile.FieldType.boolean), Jvm.Cond.code ({ cls := "com/example/trailcaster/trailcaster/model/MediaType", name := "overNetwork", desc := "()Z" } : Jvm.MethodName) prog_63_method_6_code (1 : Nat) (Option.some Jvm.ClassFile.FieldType.boolean)]
set_option maxRecDepth 65536 in
theorem codes_eq : words1.filter isCode = codes1 := rfl
theorem w_codes : ∀ c ∈ words1.filter isCode, c.before args0 about1 = true := by
  rw [codes_eq]
  intro c hc
  simp only [codes1, List.mem_cons, List.not_mem_nil, or_false] at hc
  rcases hc with rfl | rfl | rfl | rfl
  · exact w_c0
  · exact w_c1
  · exact w_c2
  · exact w_c3
set_option maxRecDepth 65536 in
theorem w_t1 : (words1.take 24).all (fun c => isCode c || c.before args0 about1) = true := by decide +kernel
set_option maxRecDepth 65536 in
theorem w_t2 : (words1.drop 24).all (fun c => isCode c || c.before args0 about1) = true := by decide +kernel
theorem w_tables : (allAtoms (Jvm.Cond.code x code maxLocals ret :: tables_1)).before args0 about1 = true := by
  rw [allAtoms_all]
  show words1.all (fun c => c.before args0 about1) = true
  refine all_split ?_ w_codes
  rw [← List.take_append_drop 24 words1, List.all_append, w_t1, w_t2]
  rfl
set_option maxRecDepth 65536 in
theorem w_case : (Jvm.Cond.and given_1 narrow_1).before args0 about1 = true := by decide +kernel
theorem w_applies : (headSpec (Jvm.Cond.code x code maxLocals ret :: tables_1) room_1).applies x e0.platform about1 = true :=
  (Spec.applies_iff w_frames).mpr ⟨w_running, w_runnable, w_alone, w_named, w_hears, w_ripe, w_room, w_tables⟩
theorem atStart : AtStart classFile x code maxLocals ret World_1 tables_1 room_1 Calls_1 rest_1 Pre_1 launch0 p0 e0 about1 theMethod args0 below0 :=
  ⟨lists_1, trivial, launch0.admits_env _ _ _, launch0.least_env, fairChoices_fair.cas, fairChoices_fair.clock, w_frames, w_args, w_heap, w_applies, trivial, trivial, w_case⟩
end start1
theorem witness_1 : WitnessClaimed_1 := ⟨start1.p0, start1.e0, start1.about1, start1.theMethod, start1.args0, start1.below0, start1.atStart⟩
end Jvm.Pilot.@@N@@
