import JvmDerived
import JvmDerived.Pilot.@@N@@Statement
import JvmDerived.Pilot.@@N@@Code
set_option linter.unusedVariables false
set_option linter.unusedSimpArgs false
namespace Jvm.RoadKit
open Sem ClassFile Op Lib Jvm.Stand Jvm.Free Jvm.LawKit
section New
variable {p : Program} {l : Launch} {e : Env} {R : Room} {s : State} {m : MethodId} {args : Array Value} {below : List Frame} {meth : Method} {c : Code} {T : State} {locs : List Loc} {cells slots : Nat}
theorem retI (X : Stand p l e R s m args below meth c T locs cells slots) (hx : p.tables.exec = Jvm.exec) {pc : Nat} {Ls : Array Slot} {z : Int32} {rest : List Value} (hret : meth.sig.returnType = some .int) (hd : decode c.code pc = .ok (.ireturn, 1)) {fs : List Frame}
    (hl : ∀ (f : JFrame) (acts : List Action), f.method = m → f.locked = none → f.entered = [] → (doReturn e (T.setTop f) acts (some (.int z))).1 = T.setFrames fs) : Steps p.tables e below (T.setTop (mkF m pc Ls (.int z :: rest))) (T.setFrames fs) := by
  have hm' : T.vm.method? m = some meth := X.method'
  have hn : narrow .int (.int z) = .int z := rfl
  show Steps p.tables e below (T.setTop { method := m, pc := pc, locals := Ls, stack := _ :: rest, locked := none }) _
  jvm_step X.here [X.here.top, hx, hd, hm', hret, hn]
  first | (intro acts; rw [hl _ acts rfl rfl rfl]) | rw [hl _ _ rfl rfl rfl]
  exact Steps.refl _
end New
end Jvm.RoadKit
@@BLOCK:NumsL.lean.txt@@
/- laws to paste: Road.backV, Road.eqW, Road.codOf (cut by pick.py; bodies as the Statement names them) -/
namespace Jvm.Pilot.@@N@@
namespace StrChars
open Jvm Sem ClassFile Op Lib Jvm.Stand Jvm.Free.XT Jvm.Free.ALB Jvm.Free.JM Jvm.Free
open Jvm.Lib.Cold (StaticIs)
/-- a char array whose places are chars -/
def Ch (a : Addr) (A : Cell) (U : State) : Prop := Arr .char a A U ∧ Typed .char A
theorem Ch.mv {a : Addr} {A : Cell} {U U' : State} (h : Ch a A U) (hal : U.vm.Alike U'.vm) (hh : U'.heap = U.heap) : Ch a A U' := ⟨h.1.mv hal hh, h.2⟩
theorem Ch.keep {a : Addr} {A : Cell} {U U' : State} (h : Ch a A U) (hal : U.vm.Alike U'.vm) (hk : U'.heap[a]? = some A) : Ch a A U' := ⟨h.1.keep hal hk, h.2⟩
/-- what place i of a char[]'s cell holds -/
def cv (A : Cell) (i : Nat) : Int32 := match A.slots[i]? with | some (.int x) => x | _ => 0
theorem Ch.get {a : Addr} {A : Cell} {U : State} (h : Ch a A U) {i : Nat} (hi : i < A.slots.size) : A.slots[i]? = some (.int (cv A i)) := by
  have e := Array.getElem?_eq_getElem hi
  have f := h.2 i _ e
  unfold cv; rw [e]
  generalize A.slots[i] = v at f
  cases v <;> simp [fits] at f ⊢
/-- the byte that i2b leaves of a char -/
def lo8 (x : Int32) : Int32 := x.toInt8.toInt32
theorem fits_lo8 (y : Int32) : fits .byte (.int (lo8 y)) = true := by
  have h1 := y.toInt8.le_toInt
  have h2 := y.toInt8.toInt_lt
  simp only [lo8, fits, Bool.and_eq_true, decide_eq_true_eq, Int32.le_iff_toInt_le, Int8.toInt_toInt32, show (-128 : Int32).toInt = -128 from by decide, show (127 : Int32).toInt = 127 from by decide]
  omega
/-- A' is A but that each place j of lo .. hi - 1 holds f j -/
def Laid (A A' : Cell) (lo hi : Nat) (f : Nat → Value) : Prop := A'.cls = A.cls ∧ A'.vm = A.vm ∧ A'.slots.size = A.slots.size ∧ ∀ i, A'.slots[i]? = if lo ≤ i ∧ i < hi then some (f i) else A.slots[i]?
theorem Laid.zero (A : Cell) (lo : Nat) (f : Nat → Value) : Laid A A lo (lo + 0) f := ⟨rfl, rfl, rfl, fun i => by rw [if_neg (by omega)]⟩
theorem Laid.step {A Ak : Cell} {lo k : Nat} {f : Nat → Value} {v : Value} (h : Laid A Ak lo k f) (hlo : lo ≤ k) (hk : k < Ak.slots.size) (hv : v = f k) : Laid A (Ak.setSlot k v) lo (k + 1) f := by
  refine ⟨h.1, h.2.1, by simpa [Cell.setSlot] using h.2.2.1, fun i => ?_⟩
  by_cases e : k = i
  · subst e; rw [Cell.slots_setSlot_self v hk, if_pos (by omega), hv]
  · rw [Cell.slots_setSlot_ne v e, h.2.2.2 i]
    by_cases q : lo ≤ i ∧ i < k
    · rw [if_pos q, if_pos (by omega)]
    · rw [if_neg q, if_neg (by omega)]
def U16 : String := "java/lang/StringUTF16"
namespace Cmp5
def yN : MethodName := ⟨"java/lang/StringUTF16", "compress", "([CI[BII)I"⟩
abbrev yB : ByteArray := jdk_52_method_21_code
theorem d0 : decode yB 0 = .ok (.iconst 0, 1) := by decide +kernel
theorem d1 : decode yB 1 = .ok (.istore 5, 2) := by decide +kernel
theorem d3 : decode yB 3 = .ok (.iload 5, 2) := by decide +kernel
theorem d5 : decode yB 5 = .ok (.iload 4, 2) := by decide +kernel
theorem d7 : decode yB 7 = .ok (.if_icmp (.ge) 37, 3) := by decide +kernel
theorem d10 : decode yB 10 = .ok (.aload_n 0, 1) := by decide +kernel
theorem d11 : decode yB 11 = .ok (.iload_n 1, 1) := by decide +kernel
theorem d12 : decode yB 12 = .ok (.caload, 1) := by decide +kernel
theorem d13 : decode yB 13 = .ok (.istore 6, 2) := by decide +kernel
theorem d15 : decode yB 15 = .ok (.iload 6, 2) := by decide +kernel
theorem d17 : decode yB 17 = .ok (.sipush 255, 3) := by decide +kernel
theorem d20 : decode yB 20 = .ok (.if_icmp (.le) 6, 3) := by decide +kernel
theorem d26 : decode yB 26 = .ok (.aload_n 2, 1) := by decide +kernel
theorem d27 : decode yB 27 = .ok (.iload_n 3, 1) := by decide +kernel
theorem d28 : decode yB 28 = .ok (.iload 6, 2) := by decide +kernel
theorem d30 : decode yB 30 = .ok (.i2b, 1) := by decide +kernel
theorem d31 : decode yB 31 = .ok (.bastore, 1) := by decide +kernel
theorem d32 : decode yB 32 = .ok (.iinc 1 1, 3) := by decide +kernel
theorem d35 : decode yB 35 = .ok (.iinc 3 1, 3) := by decide +kernel
theorem d38 : decode yB 38 = .ok (.iinc 5 1, 3) := by decide +kernel
theorem d41 : decode yB 41 = .ok (.goto (-38), 3) := by decide +kernel
theorem d44 : decode yB 44 = .ok (.iload 4, 2) := by decide +kernel
theorem d46 : decode yB 46 = .ok (.ireturn, 1) := by decide +kernel
def site : List Cond := []
def tab : Cond := tabOf yN yB 7 (some .int) site
def P (b : Addr) (A : Cell) (d : Addr) (B : Cell) (o q len : Nat) (args : Array Value) (s : State) : Prop := args = #[.ref b, .int (Int32.ofNat o), .ref d, .int (Int32.ofNat q), .int (Int32.ofNat len)] ∧ Ch b A s ∧ Arr .byte d B s ∧ b ≠ d ∧ o + len ≤ A.slots.size ∧ q + len ≤ B.slots.size ∧ ∀ i, i < len → ¬ 255 < cv A (o + i)
def E (b : Addr) (A : Cell) (d : Addr) (B : Cell) (o q len : Nat) (r : Option Value) (s u : State) : Prop := r = some (.int (Int32.ofNat len)) ∧ ∃ B', Put d B' s u ∧ Laid B B' q (q + len) (fun j => Value.int (lo8 (cv A (o + (j - q)))))
/-- no char of the range above 255: len; the places written hold each char's low byte -/
theorem law (l : Launch) (b : Addr) (A : Cell) (d : Addr) (B : Cell) (o q len : Nat) : Law l yN 5 5 0 0 yB 7 (some .int) site (P b A d B o q len) (E b A d B o q len) (copyLocs d q len) 0 0 := by
  refine Law.of_walk (plainFor_of_name (by decide +kernel)) (by decide +kernel) (by decide +kernel) (by decide) (fun _ _ h => by rw [h.1]; rfl) (fun _ U U' hal hh h => ⟨h.1, h.2.1.mv hal hh, h.2.2.1.mv hal hh, h.2.2.2⟩) (fun r U U' V V' h1 hal h2 h => ⟨h.1, h.2.elim fun B' q => ⟨B', q.1.mv h1 h2, q.2⟩⟩) ?_
  intro p e s m args below meth c s₁ X0 hexec hbytes hml hret hlk hnm hown hh0 W hP
  obtain ⟨rfl, hA, hB, hne, l1, l2, hp⟩ := hP
  have c1 : Steps p.tables e below (s₁.setTop (entryFrame m #[.ref b, .int (Int32.ofNat o), .ref d, .int (Int32.ofNat q), .int (Int32.ofNat len)] 7)) (s₁.setTop (mkF m 0 #[.val (.ref b), .val (.int (Int32.ofNat o)), .val (.ref d), .val (.int (Int32.ofNat q)), .val (.int (Int32.ofNat len)), .unset, .unset] [])) := entry rfl
  have hA0 := hA.1.mv X0.warmed.alike hh0
  have hB0 := hB.mv X0.warmed.alike hh0
  have a31 := hA.1.2.2.2
  have c2 : Steps p.tables e below (s₁.setTop (entryFrame m #[.ref b, .int (Int32.ofNat o), .ref d, .int (Int32.ofNat q), .int (Int32.ofNat len)] 7)) (s₁.setTop (mkF m 3 #[.val (.ref b), .val (.int (Int32.ofNat o)), .val (.ref d), .val (.int (Int32.ofNat q)), .val (.int (Int32.ofNat len)), .val (.int 0), .unset] [])) := c1.trans (by
    refine iconstV X0.here hexec rfl 0 (hb hbytes d0) (by decide) ?_
    refine XS.istore X0.here hexec rfl (hb hbytes d1) rfl rfl ?_
    exact Steps.refl _)
  have loop : ∀ (r i : Nat), i + r = len → ∀ (z : Slot), (z = .unset ∨ ∃ w, z = .val w ∧ w.category = 1) → ∀ (Tl : State) (Bk : Cell), Stand p l e { frames := 0, locals := 0, cells := 0, slots := 0 } s m #[.ref b, .int (Int32.ofNat o), .ref d, .int (Int32.ofNat q), .int (Int32.ofNat len)] below meth c Tl ([] ++ copyLocs d q i) 0 0 → Put d Bk s₁ Tl → Laid B Bk q (q + i) (fun j => Value.int (lo8 (cv A (o + (j - q))))) →
      Steps p.tables e below (s₁.setTop (entryFrame m #[.ref b, .int (Int32.ofNat o), .ref d, .int (Int32.ofNat q), .int (Int32.ofNat len)] 7)) (Tl.setTop (mkF m 3 #[.val (.ref b), .val (.int (Int32.ofNat (o + i))), .val (.ref d), .val (.int (Int32.ofNat (q + i))), .val (.int (Int32.ofNat len)), .val (.int (Int32.ofNat i)), z] [])) → ∃ (T' : State) (B' : Cell) (z' : Slot), Stand p l e { frames := 0, locals := 0, cells := 0, slots := 0 } s m #[.ref b, .int (Int32.ofNat o), .ref d, .int (Int32.ofNat q), .int (Int32.ofNat len)] below meth c T' ([] ++ copyLocs d q len) 0 0 ∧ Put d B' s₁ T' ∧ Laid B B' q (q + len) (fun j => Value.int (lo8 (cv A (o + (j - q))))) ∧
      Steps p.tables e below (s₁.setTop (entryFrame m #[.ref b, .int (Int32.ofNat o), .ref d, .int (Int32.ofNat q), .int (Int32.ofNat len)] 7)) (T'.setTop (mkF m 3 #[.val (.ref b), .val (.int (Int32.ofNat (o + len))), .val (.ref d), .val (.int (Int32.ofNat (q + len))), .val (.int (Int32.ofNat len)), .val (.int (Int32.ofNat len)), z'] [])) := by
    intro r
    induction r with
    | zero =>
      intro i hi z hz Tl Bk Xl pl fl cl
      have hil : i = len := by omega
      rw [hil] at Xl fl cl
      exact ⟨Tl, Bk, z, Xl, pl, fl, cl⟩
    | succ r ih =>
      intro i hi z hz Tl Bk Xl pl fl cl
      have all := X0.warmed.alike.symm.trans Xl.warmed.alike
      have hAl := hA0.keep all (pl.other hne hA0.1)
      have hBk := hB0.like all pl.1 fl.1 fl.2.1 fl.2.2.1
      have hlt : q + i < Bk.slots.size := by rw [fl.2.2.1]; omega
      have c3 : Steps p.tables e below (s₁.setTop (entryFrame m #[.ref b, .int (Int32.ofNat o), .ref d, .int (Int32.ofNat q), .int (Int32.ofNat len)] 7)) (Tl.setTop (mkF m 12 #[.val (.ref b), .val (.int (Int32.ofNat (o + i))), .val (.ref d), .val (.int (Int32.ofNat (q + i))), .val (.int (Int32.ofNat len)), .val (.int (Int32.ofNat i)), z] [.int (Int32.ofNat (o + i)), .ref b])) := cl.trans (by
        refine XS.iload Xl.here hexec rfl (hb hbytes d3) rfl ?_
        refine XS.iload Xl.here hexec rfl (hb hbytes d5) rfl ?_
        refine XS.icmpNo Xl.here hexec rfl (hb hbytes d7) rfl (ii_ge_f (lt32 (by omega) (by omega))) ?_
        refine XS.aloadN Xl.here hexec rfl (hb hbytes d10) rfl rfl ?_
        refine XS.iloadN Xl.here hexec rfl (hb hbytes d11) rfl ?_
        exact Steps.refl _)
      have c4 : Steps p.tables e below (s₁.setTop (entryFrame m #[.ref b, .int (Int32.ofNat o), .ref d, .int (Int32.ofNat q), .int (Int32.ofNat len)] 7)) (Tl.setTop (mkF m 13 #[.val (.ref b), .val (.int (Int32.ofNat (o + i))), .val (.ref d), .val (.int (Int32.ofNat (q + i))), .val (.int (Int32.ofNat len)), .val (.int (Int32.ofNat i)), z] [.int (cv A (o + i))])) := c3.trans (by
        refine Xl.aget hexec hAl rfl (hA.get (i := o + i) (by omega)) rfl rfl (hb hbytes d12) ?_
        exact Steps.refl _)
      have c5 : Steps p.tables e below (s₁.setTop (entryFrame m #[.ref b, .int (Int32.ofNat o), .ref d, .int (Int32.ofNat q), .int (Int32.ofNat len)] 7)) (Tl.setTop (mkF m 15 #[.val (.ref b), .val (.int (Int32.ofNat (o + i))), .val (.ref d), .val (.int (Int32.ofNat (q + i))), .val (.int (Int32.ofNat len)), .val (.int (Int32.ofNat i)), .val (.int (cv A (o + i)))] [])) := c4.trans (by
        refine XS.istoreS Xl.here hexec rfl (hb hbytes d13) rfl rfl hz ?_
        exact Steps.refl _)
      have c6 : Steps p.tables e below (s₁.setTop (entryFrame m #[.ref b, .int (Int32.ofNat o), .ref d, .int (Int32.ofNat q), .int (Int32.ofNat len)] 7)) (Tl.setTop (mkF m 31 #[.val (.ref b), .val (.int (Int32.ofNat (o + i))), .val (.ref d), .val (.int (Int32.ofNat (q + i))), .val (.int (Int32.ofNat len)), .val (.int (Int32.ofNat i)), .val (.int (cv A (o + i)))] [.int (lo8 (cv A (o + i))), .int (Int32.ofNat (q + i)), .ref d])) := c5.trans (by
        refine XS.iload Xl.here hexec rfl (hb hbytes d15) rfl ?_
        refine sipushV Xl.here hexec rfl 255 (hb hbytes d17) (by decide) ?_
        refine XS.icmpYes Xl.here hexec rfl (pc0 := 20) rfl (hb hbytes d20) rfl (ii_le_t (hp i (by omega))) (by decide) rfl ?_
        refine XS.aloadN Xl.here hexec rfl (hb hbytes d26) rfl rfl ?_
        refine XS.iloadN Xl.here hexec rfl (hb hbytes d27) rfl ?_
        refine XS.iload Xl.here hexec rfl (hb hbytes d28) rfl ?_
        refine i2b Xl.here hexec rfl (hb hbytes d30) rfl ?_
        exact Steps.refl _)
      obtain ⟨T7, X7, p7, st7⟩ := Xl.aput hexec hBk rfl hlt rfl (fits_lo8 (cv A (o + i))) (g := (mkF m 31 #[.val (.ref b), .val (.int (Int32.ofNat (o + i))), .val (.ref d), .val (.int (Int32.ofNat (q + i))), .val (.int (Int32.ofNat len)), .val (.int (Int32.ofNat i)), .val (.int (cv A (o + i)))] [.int (lo8 (cv A (o + i))), .int (Int32.ofNat (q + i)), .ref d])) rfl (rest := []) rfl (hb hbytes d31)
      have c8 : Steps p.tables e below (s₁.setTop (entryFrame m #[.ref b, .int (Int32.ofNat o), .ref d, .int (Int32.ofNat q), .int (Int32.ofNat len)] 7)) (T7.setTop (mkF m 32 #[.val (.ref b), .val (.int (Int32.ofNat (o + i))), .val (.ref d), .val (.int (Int32.ofNat (q + i))), .val (.int (Int32.ofNat len)), .val (.int (Int32.ofNat i)), .val (.int (cv A (o + i)))] [])) := c6.trans (st7 _ (Steps.refl _))
      have c9 : Steps p.tables e below (s₁.setTop (entryFrame m #[.ref b, .int (Int32.ofNat o), .ref d, .int (Int32.ofNat q), .int (Int32.ofNat len)] 7)) (T7.setTop (mkF m 3 #[.val (.ref b), .val (.int (Int32.ofNat (o + i) + 1)), .val (.ref d), .val (.int (Int32.ofNat (q + i) + 1)), .val (.int (Int32.ofNat len)), .val (.int (Int32.ofNat i + 1)), .val (.int (cv A (o + i)))] [])) := c8.trans (by
        refine iincV X7.here hexec rfl 1 (hb hbytes d32) (by decide) rfl rfl ?_
        refine iincV X7.here hexec rfl 1 (hb hbytes d35) (by decide) rfl rfl ?_
        refine iincV X7.here hexec rfl 1 (hb hbytes d38) (by decide) rfl rfl ?_
        refine XS.goto X7.here hexec rfl (pc0 := 41) rfl (hb hbytes d41) (by decide) rfl ?_
        exact Steps.refl _)
      have c10 : Steps p.tables e below (s₁.setTop (entryFrame m #[.ref b, .int (Int32.ofNat o), .ref d, .int (Int32.ofNat q), .int (Int32.ofNat len)] 7)) (T7.setTop (mkF m 3 #[.val (.ref b), .val (.int (Int32.ofNat (o + (i + 1)))), .val (.ref d), .val (.int (Int32.ofNat (q + (i + 1)))), .val (.int (Int32.ofNat len)), .val (.int (Int32.ofNat (i + 1))), .val (.int (cv A (o + i)))] [])) := by
        have := c9
        rw [succ32, succ32, succ32] at this
        exact this
      exact ih (i + 1) (by omega) _ (Or.inr ⟨_, rfl, rfl⟩) T7 _ (by rw [copyLocs_step, ← List.append_assoc]; exact X7) (pl.trans p7) (fl.step (by omega) hlt (by simp)) c10
  obtain ⟨T9, B9, z9, X9, p9, f9, g9⟩ := loop len 0 (by omega) .unset (Or.inl rfl) s₁ B (by simpa [copyLocs] using X0) ⟨hB0.1, fun _ _ => rfl, rfl⟩ (Laid.zero _ _ _) c2
  have c11 : Steps p.tables e below (s₁.setTop (entryFrame m #[.ref b, .int (Int32.ofNat o), .ref d, .int (Int32.ofNat q), .int (Int32.ofNat len)] 7)) (T9.setTop (mkF m 46 #[.val (.ref b), .val (.int (Int32.ofNat (o + len))), .val (.ref d), .val (.int (Int32.ofNat (q + len))), .val (.int (Int32.ofNat len)), .val (.int (Int32.ofNat len)), z9] [.int (Int32.ofNat len)])) := g9.trans (by
    refine XS.iload X9.here hexec rfl (hb hbytes d3) rfl ?_
    refine XS.iload X9.here hexec rfl (hb hbytes d5) rfl ?_
    refine XS.icmpYes X9.here hexec rfl (pc0 := 7) rfl (hb hbytes d7) rfl (ii_ge_t (nlt32 (by omega) (Nat.le_refl _))) (by decide) rfl ?_
    refine XS.iload X9.here hexec rfl (hb hbytes d44) rfl ?_
    exact Steps.refl _)
  exact ⟨T9, some (.int (Int32.ofNat len)), _, _, _, X9, by simp, rfl, rfl, (fun h => by cases h), ⟨rfl, B9, p9.from hh0, f9⟩, fun fs hl => c11.trans (X9.ireturnOut hexec hret rfl (Or.inl rfl) (hb hbytes d46) hl)⟩
end Cmp5
namespace Cmp3
def yN : MethodName := ⟨"java/lang/StringUTF16", "compress", "([CII)[B"⟩
abbrev yB : ByteArray := jdk_52_method_16_code
theorem d0 : decode yB 0 = .ok (.iload_n 2, 1) := by decide +kernel
theorem d1 : decode yB 1 = .ok (.newarray .byte, 2) := by decide +kernel
theorem d3 : decode yB 3 = .ok (.astore_n 3, 1) := by decide +kernel
theorem d4 : decode yB 4 = .ok (.aload_n 0, 1) := by decide +kernel
theorem d5 : decode yB 5 = .ok (.iload_n 1, 1) := by decide +kernel
theorem d6 : decode yB 6 = .ok (.aload_n 3, 1) := by decide +kernel
theorem d7 : decode yB 7 = .ok (.iconst 0, 1) := by decide +kernel
theorem d8 : decode yB 8 = .ok (.iload_n 2, 1) := by decide +kernel
theorem d9 : decode yB 9 = .ok (.invokestatic 115, 3) := by decide +kernel
theorem d12 : decode yB 12 = .ok (.istore 4, 2) := by decide +kernel
theorem d14 : decode yB 14 = .ok (.iload 4, 2) := by decide +kernel
theorem d16 : decode yB 16 = .ok (.iload_n 2, 1) := by decide +kernel
theorem d17 : decode yB 17 = .ok (.if_icmp (.eq) 40, 3) := by decide +kernel
theorem d57 : decode yB 57 = .ok (.aload_n 3, 1) := by decide +kernel
theorem d58 : decode yB 58 = .ok (.areturn, 1) := by decide +kernel
def site : List Cond := [.arrayClass .byte, Cmp5.tab] ++ staticW U16 115 Cmp5.yN
def tab : Cond := tabOf yN yB 6 (some (.array .byte)) site
def P (b : Addr) (A : Cell) (o len : Nat) (args : Array Value) (s : State) : Prop := args = #[.ref b, .int (Int32.ofNat o), .int (Int32.ofNat len)] ∧ Ch b A s ∧ o + len ≤ A.slots.size ∧ len ≤ 536870912 ∧ ∀ i, i < len → ¬ 255 < cv A (o + i)
def E (b : Addr) (A : Cell) (o len : Nat) (r : Option Value) (s u : State) : Prop := NewArr .byte "[B" len (fun j => .int (lo8 (cv A (o + j)))) r s u ∧ u.heap.size = s.heap.size + 1
/-- no char of the range above 255: a new byte[] of their low bytes -/
theorem law (l : Launch) (b : Addr) (A : Cell) (o len : Nat) : Law l yN 3 3 1 18 yB 6 (some (.array .byte)) site (P b A o len) (E b A o len) [] 1 len := by
  refine Law.of_walk (plainFor_of_name (by decide +kernel)) (by decide +kernel) (by decide +kernel) (by decide) (fun _ _ h => by rw [h.1]; rfl) (fun _ U U' hal hh h => ⟨h.1, h.2.1.mv hal hh, h.2.2⟩) (fun r U U' V V' h1 hal h2 h => ⟨NewArr.mv r U U' V V' h1 hal h2 h.1, by rw [h1, h2]; exact h.2⟩) ?_
  intro p e s m args below meth c s₁ X0 hexec hbytes hml hret hlk hnm hown hh0 W hP
  obtain ⟨rfl, hA, l1, l2, hp⟩ := hP
  have a31 := hA.1.2.2.2
  have c1 : Steps p.tables e below (s₁.setTop (entryFrame m #[.ref b, .int (Int32.ofNat o), .int (Int32.ofNat len)] 6)) (s₁.setTop (mkF m 0 #[.val (.ref b), .val (.int (Int32.ofNat o)), .val (.int (Int32.ofNat len)), .unset, .unset, .unset] [])) := entry rfl
  have c2 : Steps p.tables e below (s₁.setTop (entryFrame m #[.ref b, .int (Int32.ofNat o), .int (Int32.ofNat len)] 6)) (s₁.setTop (mkF m 1 #[.val (.ref b), .val (.int (Int32.ofNat o)), .val (.int (Int32.ofNat len)), .unset, .unset, .unset] [.int (Int32.ofNat len)])) := c1.trans (by
    refine XS.iloadN X0.here hexec rfl (hb hbytes d0) rfl ?_
    exact Steps.refl _)
  obtain ⟨T3, B3, X3, ba3, bs3, bv3, bh3, bf3, st3⟩ := X0.anew hexec (atype := .byte) (wk W (.arrayClass .byte)) rfl (by show len * 1 ≤ _; omega) (by omega) (g := (mkF m 1 #[.val (.ref b), .val (.int (Int32.ofNat o)), .val (.int (Int32.ofNat len)), .unset, .unset, .unset] [.int (Int32.ofNat len)])) rfl (hb hbytes d1) (rest := []) rfl (Nat.le_refl _) (by show 0 + len ≤ len; omega)
  rw [hh0] at ba3 st3
  have kp3 : XT.Kept s T3 := (XT.Kept.of_eq hh0).push bh3
  have hA3 := hA.keep X3.warmed.alike (kp3 _ _ hA.1.1)
  have hne : b ≠ s.heap.size := hA.1.ne
  have c4 : Steps p.tables e below (s₁.setTop (entryFrame m #[.ref b, .int (Int32.ofNat o), .int (Int32.ofNat len)] 6)) (T3.setTop (mkF m 3 #[.val (.ref b), .val (.int (Int32.ofNat o)), .val (.int (Int32.ofNat len)), .unset, .unset, .unset] [.ref s.heap.size])) := c2.trans (st3 _ (Steps.refl _))
  have c5 : Steps p.tables e below (s₁.setTop (entryFrame m #[.ref b, .int (Int32.ofNat o), .int (Int32.ofNat len)] 6)) (T3.setTop (mkF m 9 #[.val (.ref b), .val (.int (Int32.ofNat o)), .val (.int (Int32.ofNat len)), .val (.ref s.heap.size), .unset, .unset] [.int (Int32.ofNat len), .int 0, .ref s.heap.size, .int (Int32.ofNat o), .ref b])) := c4.trans (by
    refine XS.astoreN X3.here hexec rfl (hb hbytes d3) rfl rfl rfl ?_
    refine XS.aloadN X3.here hexec rfl (hb hbytes d4) rfl rfl ?_
    refine XS.iloadN X3.here hexec rfl (hb hbytes d5) rfl ?_
    refine XS.aloadN X3.here hexec rfl (hb hbytes d6) rfl rfl ?_
    refine iconstV X3.here hexec rfl 0 (hb hbytes d7) (by decide) ?_
    refine XS.iloadN X3.here hexec rfl (hb hbytes d8) rfl ?_
    exact Steps.refl _)
  obtain ⟨v6, T6, X6, E6, g6⟩ := X3.callS hexec (Cmp5.law l b A s.heap.size B3 o 0 len) hown (wks W (staticW U16 115 Cmp5.yN)) (wk W Cmp5.tab) (W := 0) (Nat.le_of_ble_eq_true rfl) (Nat.le_of_ble_eq_true rfl) (Nat.le_refl _) (by show 0 + len + 0 ≤ len; omega) (g := (mkF m 9 #[.val (.ref b), .val (.int (Int32.ofNat o)), .val (.int (Int32.ofNat len)), .val (.ref s.heap.size), .unset, .unset] [.int (Int32.ofNat len), .int (Int32.ofNat 0), .ref s.heap.size, .int (Int32.ofNat o), .ref b])) rfl (by rw [hml]; rfl) c5 (argsL := [.ref b, .int (Int32.ofNat o), .ref s.heap.size, .int (Int32.ofNat 0), .int (Int32.ofNat len)]) (rest := []) rfl rfl (by show 2 * 0 + 0 ≤ _; decide) (hb hbytes d9) (⟨rfl, hA3, ba3, hne, l1, by rw [bs3]; simp, hp⟩)
  obtain ⟨rfl, B6, p6, f6⟩ := E6
  have c7 : Steps p.tables e below (s₁.setTop (entryFrame m #[.ref b, .int (Int32.ofNat o), .int (Int32.ofNat len)] 6)) (T6.setTop (mkF m 12 #[.val (.ref b), .val (.int (Int32.ofNat o)), .val (.int (Int32.ofNat len)), .val (.ref s.heap.size), .unset, .unset] [.int (Int32.ofNat len)])) := g6
  have c8 : Steps p.tables e below (s₁.setTop (entryFrame m #[.ref b, .int (Int32.ofNat o), .int (Int32.ofNat len)] 6)) (T6.setTop (mkF m 58 #[.val (.ref b), .val (.int (Int32.ofNat o)), .val (.int (Int32.ofNat len)), .val (.ref s.heap.size), .val (.int (Int32.ofNat len)), .unset] [.ref s.heap.size])) := c7.trans (by
    refine XS.istore X6.here hexec rfl (hb hbytes d12) rfl rfl ?_
    refine XS.iload X6.here hexec rfl (hb hbytes d14) rfl ?_
    refine XS.iloadN X6.here hexec rfl (hb hbytes d16) rfl ?_
    refine XS.icmpYes X6.here hexec rfl (pc0 := 17) rfl (hb hbytes d17) rfl (ii_eq_t rfl) (by decide) rfl ?_
    refine XS.aloadN X6.here hexec rfl (hb hbytes d57) rfl rfl ?_
    exact Steps.refl _)
  have X8 := X6.wide (L' := []) (cells' := 1) (slots' := len) (fun x hx hlt => by
    simp only [List.nil_append, copyLocs, List.mem_map, List.mem_range] at hx
    obtain ⟨i, -, rfl⟩ := hx
    exact absurd hlt (Nat.lt_irrefl _)) (Nat.le_refl _) (by omega)
  exact ⟨T6, some (.ref s.heap.size), _, _, _, X8, rfl, rfl, rfl, (fun h => by cases h), ⟨⟨rfl, B6, ba3.like (X3.warmed.alike.symm.trans X6.warmed.alike) p6.1 f6.1 f6.2.1 f6.2.2.1, f6.2.1.trans bv3, by rw [X6.warmed.alike.findClass, f6.1]; exact bf3, by rw [f6.2.2.1, bs3]; simp, fun j hj => by rw [f6.2.2.2 j, if_pos (by omega)]; rfl, kp3.put p6 (Nat.le_refl _)⟩, by rw [p6.2.2, bh3, hh0]; simp⟩, fun fs hl => c8.trans (X8.areturnOut hexec rfl hret rfl (hb hbytes d58) hl)⟩
end Cmp3
namespace CodL
def yN : MethodName := ⟨"java/lang/StringUTF16", "coderFromArrayLen", "([BI)B"⟩
abbrev yB : ByteArray := jdk_52_method_15_code
theorem d0 : decode yB 0 = .ok (.iload_n 1, 1) := by decide +kernel
theorem d1 : decode yB 1 = .ok (.aload_n 0, 1) := by decide +kernel
theorem d2 : decode yB 2 = .ok (.arraylength, 1) := by decide +kernel
theorem d3 : decode yB 3 = .ok (.isub, 1) := by decide +kernel
theorem d4 : decode yB 4 = .ok (.bipush 31, 2) := by decide +kernel
theorem d6 : decode yB 6 = .ok (.iushr, 1) := by decide +kernel
theorem d7 : decode yB 7 = .ok (.i2b, 1) := by decide +kernel
theorem d8 : decode yB 8 = .ok (.ireturn, 1) := by decide +kernel
def site : List Cond := []
def tab : Cond := tabOf yN yB 2 (some .byte) site
def P (d : Addr) (B : Cell) (args : Array Value) (s : State) : Prop := args = #[.ref d, .int (Int32.ofNat B.slots.size)] ∧ Arr .byte d B s
def E (r : Option Value) (s u : State) : Prop := XT.PureE (some (.int 0)) r s u
/-- an array as long as the number of chars: LATIN1 -/
theorem law (l : Launch) (d : Addr) (B : Cell) : Law l yN 2 2 0 0 yB 2 (some .byte) site (P d B) E [] 0 0 := by
  refine Law.of_walk (plainFor_of_name (by decide +kernel)) (by decide +kernel) (by decide +kernel) (by decide) (fun _ _ h => by rw [h.1]; rfl) (fun _ U U' hal hh h => ⟨h.1, h.2.mv hal hh⟩) (fun r U U' V V' h1 hal h2 h => XT.PureE.mv r U U' V V' h1 hal h2 h) ?_
  intro p e s m args below meth c s₁ X0 hexec hbytes hml hret hlk hnm hown hh0 W hP
  obtain ⟨rfl, hB⟩ := hP
  have hB0 := hB.mv X0.warmed.alike hh0
  have c1 : Steps p.tables e below (s₁.setTop (entryFrame m #[.ref d, .int (Int32.ofNat B.slots.size)] 2)) (s₁.setTop (mkF m 0 #[.val (.ref d), .val (.int (Int32.ofNat B.slots.size))] [])) := entry rfl
  have c2 : Steps p.tables e below (s₁.setTop (entryFrame m #[.ref d, .int (Int32.ofNat B.slots.size)] 2)) (s₁.setTop (mkF m 2 #[.val (.ref d), .val (.int (Int32.ofNat B.slots.size))] [.ref d, .int (Int32.ofNat B.slots.size)])) := c1.trans (by
    refine XS.iloadN X0.here hexec rfl (hb hbytes d0) rfl ?_
    refine XS.aloadN X0.here hexec rfl (hb hbytes d1) rfl rfl ?_
    exact Steps.refl _)
  have c3 : Steps p.tables e below (s₁.setTop (entryFrame m #[.ref d, .int (Int32.ofNat B.slots.size)] 2)) (s₁.setTop (mkF m 8 #[.val (.ref d), .val (.int (Int32.ofNat B.slots.size))] [.int (lo8 (ushr (Int32.ofNat B.slots.size - Int32.ofNat B.slots.size) 31))])) := c2.trans (by
    refine X0.alen hexec hB0 rfl rfl (hb hbytes d2) ?_
    refine XS.isub X0.here hexec rfl (hb hbytes d3) rfl ?_
    refine bipushV X0.here hexec rfl 31 (hb hbytes d4) (by decide) ?_
    refine iushr X0.here hexec rfl (hb hbytes d6) rfl ?_
    refine i2b X0.here hexec rfl (hb hbytes d7) rfl ?_
    exact Steps.refl _)
  have e0 : lo8 (ushr (Int32.ofNat B.slots.size - Int32.ofNat B.slots.size) 31) = 0 := by rw [Int32.sub_self]; decide
  rw [e0] at c3
  exact ⟨s₁, some (.int 0), _, _, _, X0, rfl, rfl, rfl, (fun h => by cases h), ⟨rfl, hh0⟩, fun fs hl => c3.trans (X0.ireturnOut hexec hret rfl (Or.inr (Or.inr (Or.inl rfl))) (hb hbytes d8) hl)⟩
end CodL
/-- the String at a is Latin-1 over a new byte[] (the heap's one new cell): the low bytes of the len chars of A from o on; every cell but a is kept -/
def Got (a : Addr) (D : Cell) (fV fC : Field) (A : Cell) (o len : Nat) (r : Option Value) (s u : State) : Prop := r = none ∧ ∃ D' V : Cell, Blank "java/lang/String" a D' u ∧ Same D D' [fV.slot, fC.slot] ∧ D'.slots[fV.slot]? = some (.ref s.heap.size) ∧ D'.slots[fC.slot]? = some (.int 0) ∧ Arr .byte s.heap.size V u ∧ V.vm = .none ∧ u.vm.findClass "[B" = some V.cls ∧ V.slots.size = len ∧ (∀ j, j < len → V.slots[j]? = some (.int (lo8 (cv A (o + j))))) ∧ (∀ (y : Addr) (c : Cell), y ≠ a → s.heap[y]? = some c → u.heap[y]? = some c) ∧ u.heap.size = s.heap.size + 1
theorem Got.mv {a : Addr} {D A : Cell} {fV fC : Field} {o len : Nat} : ∀ r (U U' V V' : State), U'.heap = U.heap → V.vm.Alike V'.vm → V'.heap = V.heap → Got a D fV fC A o len r U V → Got a D fV fC A o len r U' V' :=
  fun r U U' V V' h1 hal h2 ⟨e0, D', X, a1, a2, a3, a4, a5, a6, a7, a8, a9, a10, a11⟩ => ⟨e0, D', X, a1.mv hal h2, a2, by rw [h1]; exact a3, a4, by rw [h1]; exact a5.mv hal h2, a6, by rw [hal.findClass]; exact a7, a8, a9, by rw [h1, h2]; exact a10, by rw [h1, h2]; exact a11⟩
namespace New4
def yN : MethodName := ⟨"java/lang/String", "<init>", "([CIILjava/lang/Void;)V"⟩
abbrev yB : ByteArray := jdk_42_method_149_code
theorem d0 : decode yB 0 = .ok (.aload_n 0, 1) := by decide +kernel
theorem d1 : decode yB 1 = .ok (.invokespecial 1, 3) := by decide +kernel
theorem d4 : decode yB 4 = .ok (.iload_n 3, 1) := by decide +kernel
theorem d5 : decode yB 5 = .ok (.ifCond (.ne) 22, 3) := by decide +kernel
theorem d27 : decode yB 27 = .ok (.getstatic 38, 3) := by decide +kernel
theorem d30 : decode yB 30 = .ok (.ifCond (.eq) 28, 3) := by decide +kernel
theorem d33 : decode yB 33 = .ok (.aload_n 1, 1) := by decide +kernel
theorem d34 : decode yB 34 = .ok (.iload_n 2, 1) := by decide +kernel
theorem d35 : decode yB 35 = .ok (.iload_n 3, 1) := by decide +kernel
theorem d36 : decode yB 36 = .ok (.invokestatic 177, 3) := by decide +kernel
theorem d39 : decode yB 39 = .ok (.astore 5, 2) := by decide +kernel
theorem d41 : decode yB 41 = .ok (.aload_n 0, 1) := by decide +kernel
theorem d42 : decode yB 42 = .ok (.aload 5, 2) := by decide +kernel
theorem d44 : decode yB 44 = .ok (.iload_n 3, 1) := by decide +kernel
theorem d45 : decode yB 45 = .ok (.invokestatic 47, 3) := by decide +kernel
theorem d48 : decode yB 48 = .ok (.putfield 15, 3) := by decide +kernel
theorem d51 : decode yB 51 = .ok (.aload_n 0, 1) := by decide +kernel
theorem d52 : decode yB 52 = .ok (.aload 5, 2) := by decide +kernel
theorem d54 : decode yB 54 = .ok (.putfield 9, 3) := by decide +kernel
theorem d57 : decode yB 57 = .ok (.return_, 1) := by decide +kernel
def site : List Cond := [.fieldLink "java/lang/String" 38 "java/lang/String" "COMPACT_STRINGS" "Z", Cmp3.tab, CodL.tab, .laysFinal "java/lang/String" "java/lang/String" "value" "[B", .fieldLink "java/lang/String" 9 "java/lang/String" "value" "[B", .laysFinal "java/lang/String" "java/lang/String" "coder" "B", .fieldLink "java/lang/String" 15 "java/lang/String" "coder" "B"] ++ objW "java/lang/String" 1 ++ staticW "java/lang/String" 177 Cmp3.yN ++ staticW "java/lang/String" 47 CodL.yN
def tab : Cond := tabOf yN yB 6 none site
def P (a : Addr) (D : Cell) (fV fC : Field) (b : Addr) (A : Cell) (z : Int32) (o len : Nat) (args : Array Value) (s : State) : Prop := args = #[.ref a, .ref b, .int (Int32.ofNat o), .int (Int32.ofNat len), .null] ∧ Blank "java/lang/String" a D s ∧ Found "java/lang/String" "value" "[B" fV s ∧ Found "java/lang/String" "coder" "B" fC s ∧ Ch b A s ∧ StaticIs s "java/lang/String" "COMPACT_STRINGS" "Z" (.int z) ∧ ¬ z = 0 ∧ 0 < len ∧ o + len ≤ A.slots.size ∧ len ≤ 536870912 ∧ ∀ i, i < len → ¬ 255 < cv A (o + i)
def E (a : Addr) (D : Cell) (fV fC : Field) (A : Cell) (o len : Nat) (r : Option Value) (s u : State) : Prop := Got a D fV fC A o len r s u
/-- len > 0, no char of the range above 255: a Latin-1 String of their low bytes -/
theorem law (l : Launch) (a : Addr) (D : Cell) (fV fC : Field) (b : Addr) (A : Cell) (z : Int32) (o len : Nat) : Law l yN 5 4 2 35 yB 6 none site (P a D fV fC b A z o len) (E a D fV fC A o len) [⟨a, fC.slot⟩, ⟨a, fV.slot⟩] 1 len := by
  refine Law.of_walk (plainFor_of_name (by decide +kernel)) (by decide +kernel) (by decide +kernel) (by decide) (fun _ _ h => by rw [h.1]; rfl) (fun _ U U' hal hh h => ⟨h.1, h.2.1.mv hal hh, h.2.2.1.al hal, h.2.2.2.1.al hal, h.2.2.2.2.1.mv hal hh, h.2.2.2.2.2.1.there hal hh, h.2.2.2.2.2.2⟩) (fun r U U' V V' h1 hal h2 h => Got.mv r U U' V V' h1 hal h2 h) ?_
  intro p e s m args below meth c s₁ X0 hexec hbytes hml hret hlk hnm hown hh0 W hP
  obtain ⟨rfl, hB, f1, f2, hA, s1, hz, l0, l1, l2, hp⟩ := hP
  have a31 := hA.1.2.2.2
  have c1 : Steps p.tables e below (s₁.setTop (entryFrame m #[.ref a, .ref b, .int (Int32.ofNat o), .int (Int32.ofNat len), .null] 6)) (s₁.setTop (mkF m 0 #[.val (.ref a), .val (.ref b), .val (.int (Int32.ofNat o)), .val (.int (Int32.ofNat len)), .val .null, .unset] [])) := entry rfl
  have c2 : Steps p.tables e below (s₁.setTop (entryFrame m #[.ref a, .ref b, .int (Int32.ofNat o), .int (Int32.ofNat len), .null] 6)) (s₁.setTop (mkF m 1 #[.val (.ref a), .val (.ref b), .val (.int (Int32.ofNat o)), .val (.int (Int32.ofNat len)), .val .null, .unset] [.ref a])) := c1.trans (by
    refine XS.aloadN X0.here hexec rfl (hb hbytes d0) rfl rfl ?_
    exact Steps.refl _)
  obtain ⟨T3, X3, q3, st3⟩ := X0.oinit hexec hown (wks W (objW "java/lang/String" 1)) (g := (mkF m 1 #[.val (.ref a), .val (.ref b), .val (.int (Int32.ofNat o)), .val (.int (Int32.ofNat len)), .val .null, .unset] [.ref a])) rfl (by rw [hml]; rfl) (rest := []) rfl (hb hbytes d1) (W := 0) (by show 2 * 0 + 0 ≤ _; decide) (Nat.le_of_ble_eq_true rfl) (Nat.le_of_ble_eq_true rfl)
  have hh3 := q3.trans hh0
  have c4 : Steps p.tables e below (s₁.setTop (entryFrame m #[.ref a, .ref b, .int (Int32.ofNat o), .int (Int32.ofNat len), .null] 6)) (T3.setTop (mkF m 27 #[.val (.ref a), .val (.ref b), .val (.int (Int32.ofNat o)), .val (.int (Int32.ofNat len)), .val .null, .unset] [])) := (c2.trans (st3 _ (Steps.refl _))).trans (by
    refine XS.iloadN X3.here hexec rfl (hb hbytes d4) rfl ?_
    refine XS.ifYes X3.here hexec rfl (pc0 := 5) rfl (hb hbytes d5) rfl (i0_ne_t (nz32 (by omega) l0)) (by decide) rfl ?_
    exact Steps.refl _)
  obtain ⟨T5, X5, q5, st5⟩ := X3.sget hexec hown (wk W (.fieldLink "java/lang/String" 38 "java/lang/String" "COMPACT_STRINGS" "Z")) s1 (fun _ _ h => by rw [hh3]; exact h) (g := (mkF m 27 #[.val (.ref a), .val (.ref b), .val (.int (Int32.ofNat o)), .val (.int (Int32.ofNat len)), .val .null, .unset] [])) rfl (hb hbytes d27)
  have hh5 := q5.trans hh3
  have c6 : Steps p.tables e below (s₁.setTop (entryFrame m #[.ref a, .ref b, .int (Int32.ofNat o), .int (Int32.ofNat len), .null] 6)) (T5.setTop (mkF m 30 #[.val (.ref a), .val (.ref b), .val (.int (Int32.ofNat o)), .val (.int (Int32.ofNat len)), .val .null, .unset] [.int z])) := c4.trans (st5 _ (Steps.refl _))
  have c7 : Steps p.tables e below (s₁.setTop (entryFrame m #[.ref a, .ref b, .int (Int32.ofNat o), .int (Int32.ofNat len), .null] 6)) (T5.setTop (mkF m 36 #[.val (.ref a), .val (.ref b), .val (.int (Int32.ofNat o)), .val (.int (Int32.ofNat len)), .val .null, .unset] [.int (Int32.ofNat len), .int (Int32.ofNat o), .ref b])) := c6.trans (by
    refine XS.ifNo X5.here hexec rfl (hb hbytes d30) rfl (i0_eq_f hz) ?_
    refine XS.aloadN X5.here hexec rfl (hb hbytes d33) rfl rfl ?_
    refine XS.iloadN X5.here hexec rfl (hb hbytes d34) rfl ?_
    refine XS.iloadN X5.here hexec rfl (hb hbytes d35) rfl ?_
    exact Steps.refl _)
  obtain ⟨v8, T8, X8, E8, g8⟩ := X5.callS hexec (Cmp3.law l b A o len) hown (wks W (staticW "java/lang/String" 177 Cmp3.yN)) (wk W Cmp3.tab) (W := 0) (Nat.le_of_ble_eq_true rfl) (Nat.le_of_ble_eq_true rfl) (Nat.le_refl _) (by show 0 + len ≤ len; omega) (g := (mkF m 36 #[.val (.ref a), .val (.ref b), .val (.int (Int32.ofNat o)), .val (.int (Int32.ofNat len)), .val .null, .unset] [.int (Int32.ofNat len), .int (Int32.ofNat o), .ref b])) rfl (by rw [hml]; rfl) c7 (argsL := [.ref b, .int (Int32.ofNat o), .int (Int32.ofNat len)]) (rest := []) rfl rfl (by show 2 * 0 + 0 ≤ _; decide) (hb hbytes d36) (⟨rfl, hA.mv X5.warmed.alike hh5, l1, l2, hp⟩)
  obtain ⟨e8, z8⟩ := E8
  obtain ⟨rfl, N, n1, n2, n3, n4, n5, n6⟩ := NewArr.mv _ T5 s _ _ hh5.symm (Vm.Alike.refl _) rfl e8
  rw [hh5] at z8
  have hB1 := hB.keep X8.warmed.alike (n6 _ _ hB.1)
  have hne : s.heap.size ≠ a := (Nat.ne_of_lt (Array.getElem?_eq_some_iff.mp hB.1).1).symm
  have c9 : Steps p.tables e below (s₁.setTop (entryFrame m #[.ref a, .ref b, .int (Int32.ofNat o), .int (Int32.ofNat len), .null] 6)) (T8.setTop (mkF m 39 #[.val (.ref a), .val (.ref b), .val (.int (Int32.ofNat o)), .val (.int (Int32.ofNat len)), .val .null, .unset] [.ref s.heap.size])) := g8
  have c10 : Steps p.tables e below (s₁.setTop (entryFrame m #[.ref a, .ref b, .int (Int32.ofNat o), .int (Int32.ofNat len), .null] 6)) (T8.setTop (mkF m 45 #[.val (.ref a), .val (.ref b), .val (.int (Int32.ofNat o)), .val (.int (Int32.ofNat len)), .val .null, .val (.ref s.heap.size)] [.int (Int32.ofNat N.slots.size), .ref s.heap.size, .ref a])) := by
    have hc : Steps p.tables e below (s₁.setTop (entryFrame m #[.ref a, .ref b, .int (Int32.ofNat o), .int (Int32.ofNat len), .null] 6)) (T8.setTop (mkF m 45 #[.val (.ref a), .val (.ref b), .val (.int (Int32.ofNat o)), .val (.int (Int32.ofNat len)), .val .null, .val (.ref s.heap.size)] [.int (Int32.ofNat len), .ref s.heap.size, .ref a])) := c9.trans (by
      refine XS.astore X8.here hexec rfl (hb hbytes d39) rfl rfl rfl ?_
      refine XS.aloadN X8.here hexec rfl (hb hbytes d41) rfl rfl ?_
      refine XS.aload X8.here hexec rfl (hb hbytes d42) rfl rfl ?_
      refine XS.iloadN X8.here hexec rfl (hb hbytes d44) rfl ?_
      exact Steps.refl _)
    rw [n4]; exact hc
  obtain ⟨v11, T11, X11, E11, g11⟩ := X8.callS hexec (CodL.law l s.heap.size N) hown (wks W (staticW "java/lang/String" 47 CodL.yN)) (wk W CodL.tab) (W := 1) (Nat.le_of_ble_eq_true rfl) (Nat.le_of_ble_eq_true rfl) (Nat.le_refl _) (by show 0 + len + 0 ≤ len; omega) (g := (mkF m 45 #[.val (.ref a), .val (.ref b), .val (.int (Int32.ofNat o)), .val (.int (Int32.ofNat len)), .val .null, .val (.ref s.heap.size)] [.int (Int32.ofNat N.slots.size), .ref s.heap.size, .ref a])) rfl (by rw [hml]; rfl) c10 (argsL := [.ref s.heap.size, .int (Int32.ofNat N.slots.size)]) (rest := [.ref a]) rfl rfl (by show 2 * 0 + (1 + 0) ≤ _; decide) (hb hbytes d45) (⟨rfl, n1⟩)
  obtain ⟨rfl, q11⟩ := E11
  have hB11 := hB1.mv (X8.warmed.alike.symm.trans X11.warmed.alike) q11
  have c12 : Steps p.tables e below (s₁.setTop (entryFrame m #[.ref a, .ref b, .int (Int32.ofNat o), .int (Int32.ofNat len), .null] 6)) (T11.setTop (mkF m 48 #[.val (.ref a), .val (.ref b), .val (.int (Int32.ofNat o)), .val (.int (Int32.ofNat len)), .val .null, .val (.ref s.heap.size)] [.int 0, .ref a])) := g11
  obtain ⟨T13, X13, p13, bl13, sl13, st13⟩ := X11.finit hexec hown (wk W (.fieldLink "java/lang/String" 15 "java/lang/String" "coder" "B")) (Or.inr ⟨_, (wk W (.laysFinal "java/lang/String" "java/lang/String" "coder" "B"))⟩) (Or.inl ⟨rfl, hnm⟩) f2 (Or.inl rfl) hB11 (t := .byte) (by decide +kernel) rfl (g := (mkF m 48 #[.val (.ref a), .val (.ref b), .val (.int (Int32.ofNat o)), .val (.int (Int32.ofNat len)), .val .null, .val (.ref s.heap.size)] [.int 0, .ref a])) rfl (rest := []) rfl (hb hbytes d48)
  have c14 : Steps p.tables e below (s₁.setTop (entryFrame m #[.ref a, .ref b, .int (Int32.ofNat o), .int (Int32.ofNat len), .null] 6)) (T13.setTop (mkF m 54 #[.val (.ref a), .val (.ref b), .val (.int (Int32.ofNat o)), .val (.int (Int32.ofNat len)), .val .null, .val (.ref s.heap.size)] [.ref s.heap.size, .ref a])) := (c12.trans (st13 _ (Steps.refl _))).trans (by
    refine XS.aloadN X13.here hexec rfl (hb hbytes d51) rfl rfl ?_
    refine XS.aload X13.here hexec rfl (hb hbytes d52) rfl rfl ?_
    exact Steps.refl _)
  obtain ⟨T15, X15, p15, bl15, sl15, st15⟩ := X13.finit hexec hown (wk W (.fieldLink "java/lang/String" 9 "java/lang/String" "value" "[B")) (Or.inr ⟨_, (wk W (.laysFinal "java/lang/String" "java/lang/String" "value" "[B"))⟩) (Or.inl ⟨rfl, hnm⟩) f1 (Or.inl rfl) bl13 (t := (.array .byte)) (by decide +kernel) rfl (g := (mkF m 54 #[.val (.ref a), .val (.ref b), .val (.int (Int32.ofNat o)), .val (.int (Int32.ofNat len)), .val .null, .val (.ref s.heap.size)] [.ref s.heap.size, .ref a])) rfl (rest := []) rfl (hb hbytes d54)
  have c16 : Steps p.tables e below (s₁.setTop (entryFrame m #[.ref a, .ref b, .int (Int32.ofNat o), .int (Int32.ofNat len), .null] 6)) (T15.setTop (mkF m 57 #[.val (.ref a), .val (.ref b), .val (.int (Int32.ofNat o)), .val (.int (Int32.ofNat len)), .val .null, .val (.ref s.heap.size)] [])) := c14.trans (st15 _ (Steps.refl _))
  have ap := apart (Or.inr ⟨_, (wk W (.laysFinal "java/lang/String" "java/lang/String" "value" "[B"))⟩) (Or.inr ⟨_, (wk W (.laysFinal "java/lang/String" "java/lang/String" "coder" "B"))⟩) f1 f2 (t₁ := .array .byte) (t₂ := .byte) (by decide +kernel) (by decide +kernel) (by decide)
  have al := X8.warmed.alike.symm.trans X15.warmed.alike
  have n7 : T11.heap[s.heap.size]? = some N := by rw [q11]; exact n1.1
  exact ⟨T15, none, _, _, _, X15, by simp, rfl, by omega, (fun _ => rfl), ⟨rfl, _, N, bl15, ((Same.refl D _).set _ (by simp)).set _ (by simp), sl15, (Cell.slots_setSlot_ne _ ap).trans sl13, n1.keep al (p15.other hne (p13.other hne n7)), n2, by rw [al.findClass]; exact n3, n4, n5, fun y c h1 h2 => p15.other h1 (p13.other h1 (by rw [q11]; exact n6 y c h2)), by rw [p15.2.2, p13.2.2, q11]; exact z8⟩, fun fs hl => c16.trans (X15.returnOut hexec hret (hb hbytes d57) hl)⟩
end New4
namespace New1
def yN : MethodName := ⟨"java/lang/String", "<init>", "([C)V"⟩
abbrev yB : ByteArray := jdk_42_method_3_code
theorem d0 : decode yB 0 = .ok (.aload_n 0, 1) := by decide +kernel
theorem d1 : decode yB 1 = .ok (.aload_n 1, 1) := by decide +kernel
theorem d2 : decode yB 2 = .ok (.iconst 0, 1) := by decide +kernel
theorem d3 : decode yB 3 = .ok (.aload_n 1, 1) := by decide +kernel
theorem d4 : decode yB 4 = .ok (.arraylength, 1) := by decide +kernel
theorem d5 : decode yB 5 = .ok (.aconst_null, 1) := by decide +kernel
theorem d6 : decode yB 6 = .ok (.invokespecial 27, 3) := by decide +kernel
theorem d9 : decode yB 9 = .ok (.return_, 1) := by decide +kernel
def site : List Cond := [New4.tab] ++ initW "java/lang/String" 27 New4.yN
def tab : Cond := tabOf yN yB 2 none site
def P (a : Addr) (D : Cell) (fV fC : Field) (b : Addr) (A : Cell) (z : Int32) (args : Array Value) (s : State) : Prop := args = #[.ref a, .ref b] ∧ Blank "java/lang/String" a D s ∧ Found "java/lang/String" "value" "[B" fV s ∧ Found "java/lang/String" "coder" "B" fC s ∧ Ch b A s ∧ StaticIs s "java/lang/String" "COMPACT_STRINGS" "Z" (.int z) ∧ ¬ z = 0 ∧ 0 < A.slots.size ∧ A.slots.size ≤ 536870912 ∧ ∀ i, i < A.slots.size → ¬ 255 < cv A i
def E (a : Addr) (D : Cell) (fV fC : Field) (A : Cell) (r : Option Value) (s u : State) : Prop := Got a D fV fC A 0 A.slots.size r s u
/-- new String(chars), not empty, no char above 255: a Latin-1 String of their low bytes -/
theorem law (l : Launch) (a : Addr) (D : Cell) (fV fC : Field) (b : Addr) (A : Cell) (z : Int32) : Law l yN 2 1 3 52 yB 2 none site (P a D fV fC b A z) (E a D fV fC A) [⟨a, fC.slot⟩, ⟨a, fV.slot⟩] 1 A.slots.size := by
  refine Law.of_walk (plainFor_of_name (by decide +kernel)) (by decide +kernel) (by decide +kernel) (by decide) (fun _ _ h => by rw [h.1]; rfl) (fun _ U U' hal hh h => ⟨h.1, h.2.1.mv hal hh, h.2.2.1.al hal, h.2.2.2.1.al hal, h.2.2.2.2.1.mv hal hh, h.2.2.2.2.2.1.there hal hh, h.2.2.2.2.2.2⟩) (fun r U U' V V' h1 hal h2 h => Got.mv r U U' V V' h1 hal h2 h) ?_
  intro p e s m args below meth c s₁ X0 hexec hbytes hml hret hlk hnm hown hh0 W hP
  obtain ⟨rfl, hB, f1, f2, hA, s1, hz, l0, l2, hp⟩ := hP
  have c1 : Steps p.tables e below (s₁.setTop (entryFrame m #[.ref a, .ref b] 2)) (s₁.setTop (mkF m 0 #[.val (.ref a), .val (.ref b)] [])) := entry rfl
  have c2 : Steps p.tables e below (s₁.setTop (entryFrame m #[.ref a, .ref b] 2)) (s₁.setTop (mkF m 6 #[.val (.ref a), .val (.ref b)] [.null, .int (Int32.ofNat A.slots.size), .int 0, .ref b, .ref a])) := c1.trans (by
    refine XS.aloadN X0.here hexec rfl (hb hbytes d0) rfl rfl ?_
    refine XS.aloadN X0.here hexec rfl (hb hbytes d1) rfl rfl ?_
    refine iconstV X0.here hexec rfl 0 (hb hbytes d2) (by decide) ?_
    refine XS.aloadN X0.here hexec rfl (hb hbytes d3) rfl rfl ?_
    refine X0.alen hexec (hA.1.mv X0.warmed.alike hh0) rfl rfl (hb hbytes d4) ?_
    refine XS.aconstNull X0.here hexec rfl (hb hbytes d5) ?_
    exact Steps.refl _)
  obtain ⟨v3, T3, X3, E3, g3⟩ := X0.callN hexec (New4.law l a D fV fC b A z 0 A.slots.size) rfl hown (wks W (initW "java/lang/String" 27 New4.yN)) (W New4.tab (by simp only [site, List.mem_cons, List.mem_append, true_or, or_true])) (W := 0) (Nat.le_of_ble_eq_true rfl) (Nat.le_of_ble_eq_true rfl) (Nat.le_refl _) (by show 0 + A.slots.size ≤ A.slots.size; omega) (g := (mkF m 6 #[.val (.ref a), .val (.ref b)] [.null, .int (Int32.ofNat A.slots.size), .int (Int32.ofNat 0), .ref b, .ref a])) rfl (by rw [hml]; rfl) c2 (argsL := [.ref b, .int (Int32.ofNat 0), .int (Int32.ofNat A.slots.size), .null]) (rest := []) rfl rfl (by show 2 * 0 + 0 ≤ _; decide) (hb hbytes d6) (⟨rfl, hB.mv X0.warmed.alike hh0, f1.al X0.warmed.alike, f2.al X0.warmed.alike, hA.mv X0.warmed.alike hh0, s1.there X0.warmed.alike hh0, hz, l0, by omega, l2, fun i hi => by rw [Nat.zero_add]; exact hp i hi⟩)
  have e0 := Got.mv _ s₁ s _ _ hh0.symm (Vm.Alike.refl _) rfl E3
  obtain rfl := e0.1
  have c4 : Steps p.tables e below (s₁.setTop (entryFrame m #[.ref a, .ref b] 2)) (T3.setTop (mkF m 9 #[.val (.ref a), .val (.ref b)] [])) := g3
  exact ⟨T3, none, _, _, _, X3, by simp, rfl, by omega, (fun _ => rfl), e0, fun fs hl => c4.trans (X3.returnOut hexec hret (hb hbytes d9) hl)⟩
theorem pays {l : Launch} {R : Room} {p : Program} {e : Env} {below : List Frame} {s : State} {sargs : Array Value} {len W : Nat} (a : Addr) (D : Cell) (fV fC : Field) (b : Addr) (A : Cell) (z : Int32) (htab : tab.before sargs s = true) (hfr : 4 ≤ R.frames) (hlo : W + 65 ≤ R.locals) :
    Back l R p e below s sargs yN len W (fun A₁ a₁ => A₁.cells + 1 ≤ R.cells ∧ A₁.slots + A.slots.size ≤ R.slots ∧ P a D fV fC b A z a₁ A₁.U) (fun A₁ _ v₁ B₁ => E a D fV fC A v₁ A₁.U B₁.U ∧ B₁.locs = A₁.locs ++ [⟨a, fC.slot⟩, ⟨a, fV.slot⟩] ∧ B₁.cells = A₁.cells + 1 ∧ B₁.slots = A₁.slots + A.slots.size) :=
  (law l a D fV fC b A z).pays htab hfr (by omega)
end New1
/-- the byte, read back as charAt reads it, is the char -/
theorem lo8_mask {x : Int32} (h0 : ¬ x < 0) (h1 : ¬ 255 < x) : lo8 x &&& 255 = x := by
  have t : ∀ k : Fin 256, lo8 (Int32.ofNat k.val) &&& 255 = Int32.ofNat k.val := by decide +kernel
  rw [Int32.lt_iff_toInt_lt] at h0 h1
  have e0 : (0 : Int32).toInt = 0 := rfl
  have e1 : (255 : Int32).toInt = 255 := rfl
  obtain ⟨k, hk⟩ : ∃ k : Nat, x.toInt = k := ⟨x.toInt.toNat, by omega⟩
  have hx : x = Int32.ofNat k := Int32.toInt_inj.mp (by rw [hk, Int32.toInt_ofNat_small (by omega)])
  rw [hx]
  exact t ⟨k, by omega⟩
end StrChars
namespace StrChars.Road
open Jvm Sem ClassFile Op Lib Jvm.Stand Jvm.Free Jvm.Free.XT
open Jvm.Lib.Cold (StaticIs)
abbrev ST : String := "java/lang/String"
/-- every table word that New1's law asks, flat -/
abbrev words : List Jvm.Cond := [.code New1.yN New1.yB 2 none, .initialized ST, .methodLink ST 27 New4.yN, .instanceMethod New4.yN,
  .code New4.yN New4.yB 6 none, .fieldLink ST 38 ST "COMPACT_STRINGS" "Z", .laysFinal ST ST "value" "[B", .fieldLink ST 9 ST "value" "[B", .laysFinal ST ST "coder" "B", .fieldLink ST 15 ST "coder" "B",
  .methodLink ST 1 Lib.objectInit, .instanceMethod Lib.objectInit, .code Lib.objectInit ⟨#[0xb1]⟩ 1 none, .methodLink ST 177 Cmp3.yN, .static Cmp3.yN, .methodLink ST 47 CodL.yN, .static CodL.yN,
  .code Cmp3.yN Cmp3.yB 6 (some (.array .byte)), .initialized U16, .arrayClass .byte, .methodLink U16 115 Cmp5.yN, .static Cmp5.yN, .code Cmp5.yN Cmp5.yB 7 (some .int), .code CodL.yN CodL.yB 2 (some .byte)]
theorem tab_of {a : Array Value} {s : State} (h : ∀ w ∈ words, w.before a s = true) : New1.tab.before a s = true := by
  have h5 : Cmp5.tab.before a s = true := unparts (wk h (.code Cmp5.yN Cmp5.yB 7 (some .int))) (wks h (.initialized Cmp5.yN.cls :: Cmp5.site))
  have hc : CodL.tab.before a s = true := unparts (wk h (.code CodL.yN CodL.yB 2 (some .byte))) (wks h (.initialized CodL.yN.cls :: CodL.site))
  have q5 : ∀ w ∈ Cmp5.tab :: words, w.before a s = true := fun w hw => (List.mem_cons.mp hw).elim (fun e => e ▸ h5) (h w)
  have h3 : Cmp3.tab.before a s = true := unparts (wk q5 (.code Cmp3.yN Cmp3.yB 6 (some (.array .byte)))) (wks q5 (.initialized Cmp3.yN.cls :: Cmp3.site))
  have q3 : ∀ w ∈ Cmp3.tab :: CodL.tab :: words, w.before a s = true := fun w hw => (List.mem_cons.mp hw).elim (fun e => e ▸ h3) fun hw => (List.mem_cons.mp hw).elim (fun e => e ▸ hc) (h w)
  have h4 : New4.tab.before a s = true := unparts (wk q3 (.code New4.yN New4.yB 6 none)) (wks q3 (.initialized New4.yN.cls :: New4.site))
  have q4 : ∀ w ∈ New4.tab :: words, w.before a s = true := fun w hw => (List.mem_cons.mp hw).elim (fun e => e ▸ h4) (h w)
  exact unparts (wk q4 (.code New1.yN New1.yB 2 none)) (wks q4 (.initialized New1.yN.cls :: New1.site))
/-- the words ride from the start Z to the walk's own state -/
theorem moved {Z s : State} {a0 args : Array Value} (hZ : Z.Warmed39 s.vm) (hw : ∀ d ∈ words, d.before a0 Z = true) : ∀ d ∈ words, d.before args s = true := fun d hd => by
  have q := hw d hd
  have t : ∀ d ∈ words, d = .arrayClass .byte ∨ (d.onTables && d.keepsFace) = true := by decide +kernel
  rcases t d hd with rfl | t
  · exact RoadKit.mvA hZ q
  · exact RoadKit.mv hZ q t
/-- WHAT COMES BACK, over the tables of the start Z: h the heap at the call, h' behind it -/
def Q (Z : State) (x : Addr) (A : Cell) (h : Heap) (v : Option Value) (h' : Heap) (L : List Loc) : Prop := v = none ∧ (∀ y ∈ L, y.base = x) ∧ RoadKit.Keep h h' [x] ∧ h'.size = h.size + 1 ∧ RoadKit.Exa Z h' x ST ∧ RoadKit.Fld Z h' x ST "value" "[B" (.ref h.size) ∧ RoadKit.Fld Z h' x ST "coder" "B" (.int 0) ∧
  (∃ V : Cell, RoadKit.Arr Z h' h.size V .byte ∧ V.vm = .none ∧ Z.vm.findClass "[B" = some V.cls ∧ V.slots.size = A.slots.size ∧ ∀ j, j < A.slots.size → V.slots[j]? = some (.int (lo8 (cv A j)))) ∧
  ∀ (O n d : String) (w : Value), RoadKit.Fld Z h x O n d w → RoadKit.slotOf Z O n d ≠ RoadKit.slotOf Z ST "value" "[B" → RoadKit.slotOf Z O n d ≠ RoadKit.slotOf Z ST "coder" "B" → RoadKit.Fld Z h' x O n d w
/-- **new String(chars) AT A CALL, IN THE ROAD'S FORM**: for specialBack behind newO: x the fresh String, b the char[] with the cell A -/
theorem back {p : Program} {l : Launch} {e : Env} {R : Room} {s : State} {args : Array Value} {below : List Frame} {len W : Nat} {Z : State} {a0 : Array Value} {h : Heap} (hZ : Z.Warmed39 s.vm) (hw : ∀ d ∈ words, d.before a0 Z = true) {kI : Nat} (wi : (Jvm.Cond.instantiable ST kI).before a0 Z = true)
    {x b : Addr} {A : Cell} {z : Int32} {v0 c0 : Value} (E : RoadKit.Exa Z h x ST) (V : RoadKit.Fld Z h x ST "value" "[B" v0) (C : RoadKit.Fld Z h x ST "coder" "B" c0) (K : RoadKit.Arr Z h b A .char) (hty : Typed .char A) (S : RoadKit.Sta Z h ST "COMPACT_STRINGS" "Z" (.int z)) (hz : ¬ z = 0)
    (l0 : 0 < A.slots.size) (l2 : A.slots.size ≤ 536870912) (hp : ∀ i, i < A.slots.size → ¬ 255 < cv A i) (hfr : 4 ≤ R.frames) (hlo : W + 65 ≤ R.locals) :
    Back l R p e below s args New1.yN len W (fun P a => a = #[.ref x, .ref b] ∧ P.U.heap = h ∧ P.cells + 1 ≤ R.cells ∧ P.slots + A.slots.size ≤ R.slots)
      (fun P _ v B => ∃ L, Q Z x A h v B.U.heap L ∧ B.locs = P.locs ++ L ∧ B.cells = P.cells + 1 ∧ B.slots = P.slots + A.slots.size) := by
  intro m meth c P g ig mk a X hg hsize hdg hW hn hp'
  obtain ⟨rfl, rfl, r1, r2⟩ := hp'
  have al : Z.vm.Alike P.U.vm := hZ.alike.trans X.warmed.alike
  obtain ⟨D, cfV, kV, iV, fV, hD, gV, stV, knV, obV, asV, slV⟩ := id V
  obtain ⟨D', cfC, kC, iC, fC, hD', gC, stC, -, -, asC, slC⟩ := id C
  cases hD.symm.trans hD'
  obtain ⟨D2, kD, e1, e2, e3, e4, e5⟩ := id E
  cases hD.symm.trans e1
  obtain ⟨c2, k2, i1, i2, i3, -⟩ := Cond.instantiable_spec wi
  cases e2.symm.trans i1
  cases e3.symm.trans i2
  obtain ⟨kU, u1, u2⟩ := al.2.2 _ _ e3
  have hB : Blank ST x D P.U := ⟨hD, ⟨knV, fun q hq => by rw [hq] at obV; cases obV⟩, by rw [al.findClass]; exact e2, kU, u1, by rw [u2]; exact i3, by rw [u2]; exact e5 i3⟩
  have F1 : Found ST "value" "[B" fV P.U := ⟨SBG.found_only al ⟨cfV, kV, iV, gV⟩, stV⟩
  have F2 : Found ST "coder" "B" fC P.U := ⟨SBG.found_only al ⟨cfC, kC, iC, gC⟩, stC⟩
  have hA : Ch b A P.U := ⟨⟨K.1, State.isArrayOf_alike al K.2.1, K.2.2, by omega⟩, hty⟩
  have hS : StaticIs P.U ST "COMPACT_STRINGS" "Z" (.int z) := by
    obtain ⟨cfS, iS, kS, fS, st, cS, t1, t2, t3, t4, t5, t6, t7⟩ := S
    exact StaticIs.there (s := { Z with heap := P.U.heap }) ⟨cfS, iS, kS, fS, st, cS, t1, t2, t3, t4, t5, (fun q => by rw [q] at t6; cases t6), t7⟩ al rfl
  obtain ⟨v, B, X', ⟨⟨hv, E', V', q1, q2, q3, q4, q5, q6, q7, q8, q9, q10, q11⟩, hl, hc, hs⟩, st⟩ := New1.pays x D fV fC b A z (tab_of (moved hZ hw)) hfr hlo m meth c P g ig mk _ X hg hsize hdg hW hn ⟨r1, r2, rfl, hB, F1, F2, hA, hS, hz, l0, l2, hp⟩
  have al' : Z.vm.Alike B.U.vm := hZ.alike.trans X'.warmed.alike
  have hsz : E'.slots.size = D.slots.size := by
    obtain ⟨-, -, -, kB, w1, w2, w3⟩ := q1
    obtain ⟨kB', y1, y2⟩ := al'.2.2 _ _ e3
    rw [q2.2.1] at w1
    cases w1.symm.trans y1
    rw [w3, e5 i3, y2]
  refine ⟨v, B, X', ⟨_, ⟨hv, ?_, ⟨by omega, fun y cy hy hn' => q10 y cy (by simpa using hn') hy, fun y cy hy => ?_⟩, q11, ⟨E', _, q1.1, by rw [q2.2.1]; exact e2, by rw [q2.2.1]; exact e3, by rw [q2.1]; exact obV, fun _ => by rw [hsz]; exact e5 i3⟩,
    ⟨E', cfV, kV, iV, fV, q1.1, gV, stV, by rw [q2.1]; exact knV, by rw [q2.1]; exact obV, by rw [q2.2.1]; exact asV, q3⟩, ⟨E', cfC, kC, iC, fC, q1.1, gC, stC, by rw [q2.1]; exact knV, by rw [q2.1]; exact obV, by rw [q2.2.1]; exact asC, q4⟩,
    ⟨V', ⟨q5.1, State.isArrayOf_alike al'.symm q5.2.1, q5.2.2.1⟩, q6, by rw [← al'.findClass]; exact q7, q8, fun j hj => by have := q9 j hj; rwa [Nat.zero_add] at this⟩, fun O n d w F n1 n2 => ?_⟩, hl, hc, hs⟩, st⟩
  · intro y hy
    simp only [List.mem_cons, List.not_mem_nil, or_false] at hy
    rcases hy with rfl | rfl <;> rfl
  · by_cases q : y = x
    · subst q
      cases hD.symm.trans hy
      exact ⟨E', q1.1, q2.2.1, q2.1, hsz⟩
    · exact ⟨cy, q10 y cy q hy, rfl, rfl, rfl⟩
  · obtain ⟨D3, cf, k, i, f, g1, g2, g3, g4, g5, g6, g7⟩ := F
    cases hD.symm.trans g1
    simp only [RoadKit.slotOf, g2, gV, gC, Option.map_some, Option.getD_some] at n1 n2
    exact ⟨E', cf, k, i, f, q1.1, g2, g3, by rw [q2.1]; exact g4, by rw [q2.1]; exact g5, by rw [q2.2.1]; exact g6, by rw [q2.2.2 f.slot (by simp [n1, n2])]; exact g7⟩
end StrChars.Road
namespace StrChars.Road
open Jvm Sem ClassFile Op Lib Jvm.Stand Jvm.Free Jvm.Free.XT
/-- WHAT COMES BACK, the byte[] as a list of values -/
def QA (Z : State) (x : Addr) (zn : Int32) (cs : List Int32) (h : Heap) (v : Option Value) (h' : Heap) (L : List Loc) : Prop := v = none ∧ (∀ y ∈ L, y.base = x) ∧ RoadKit.Keep h h' [x] ∧ h'.size = h.size + 1 ∧ RoadKit.Exa Z h' x ST ∧ RoadKit.Fld Z h' x ST "value" "[B" (.ref h.size) ∧ RoadKit.Fld Z h' x ST "coder" "B" (.int 0) ∧
  (∃ kb, Z.vm.findClass "[B" = some kb ∧ RoadKit.Arv Z h' h.size kb .byte zn (cs.map fun c => .int (lo8 c)) (.int 0)) ∧
  ∀ (O n d : String) (w : Value), RoadKit.Fld Z h x O n d w → RoadKit.slotOf Z O n d ≠ RoadKit.slotOf Z ST "value" "[B" → RoadKit.slotOf Z O n d ≠ RoadKit.slotOf Z ST "coder" "B" → RoadKit.Fld Z h' x O n d w
/-- **new String(chars) AT A CALL, THE ARRAYS AS LISTS**: the char[] at b holds cs, not empty, no char above 255 -/
theorem backArv {p : Program} {l : Launch} {e : Env} {R : Room} {s : State} {args : Array Value} {below : List Frame} {len W : Nat} {Z : State} {a0 : Array Value} {h : Heap} (hZ : Z.Warmed39 s.vm) (hw : ∀ d ∈ words, d.before a0 Z = true) {kI : Nat} (wi : (Jvm.Cond.instantiable ST kI).before a0 Z = true)
    {x b : Addr} {k : ClassId} {zn z : Int32} {cs : List Int32} {dv v0 c0 : Value} (E : RoadKit.Exa Z h x ST) (V : RoadKit.Fld Z h x ST "value" "[B" v0) (C : RoadKit.Fld Z h x ST "coder" "B" c0) (K : RoadKit.Arv Z h b k .char zn (cs.map Value.int) dv) (S : RoadKit.Sta Z h ST "COMPACT_STRINGS" "Z" (.int z)) (hz : ¬ z = 0)
    (hlen : zn.toNatClampNeg = cs.length) (h0 : 0 < cs.length) (hbig : cs.length ≤ 536870912) (hall : ∀ c ∈ cs, ¬ 255 < c) (hfr : 4 ≤ R.frames) (hlo : W + 65 ≤ R.locals) :
    Back l R p e below s args New1.yN len W (fun P a => a = #[.ref x, .ref b] ∧ P.U.heap = h ∧ P.cells + 1 ≤ R.cells ∧ P.slots + cs.length ≤ R.slots)
      (fun P _ v B => ∃ L, QA Z x zn cs h v B.U.heap L ∧ B.locs = P.locs ++ L ∧ B.cells = P.cells + 1 ∧ B.slots = P.slots + cs.length) := by
  obtain ⟨A, K1, K2, K3, K4, K5, K6⟩ := K
  have e : A.slots.size = cs.length := K3.trans hlen
  have hat : ∀ (i : Nat) (hi : i < cs.length), A.slots[i]? = some (.int cs[i]) := fun i hi => by rw [K5 i (by omega)]; simp [List.getD_eq_getElem?_getD, hi]
  have hcv : ∀ (i : Nat) (hi : i < cs.length), cv A i = cs[i] := fun i hi => by unfold cv; rw [hat i hi]
  have hty : Typed .char A := fun i v hv => by
    have hi : i < A.slots.size := (Array.getElem?_eq_some_iff.mp hv).1
    have q := K5 i hi
    rw [hv] at q
    rw [Option.some.inj q]
    exact K6 i hi
  refine Back.mono (back hZ hw wi E V C K1 hty S hz (by omega) (by omega) (fun i hi => by rw [hcv i (by omega)]; exact hall _ (List.getElem_mem _)) hfr hlo) (fun P a hp => ⟨hp.1, hp.2.1, hp.2.2.1, by rw [e]; exact hp.2.2.2⟩) (fun P a v B hp hq => ?_)
  obtain ⟨L, ⟨q1, q2, q3, q4, q5, q6, q7, ⟨V', v1, v2, v3, v4, v5⟩, q9⟩, hl, hc, hs⟩ := hq
  refine ⟨L, ⟨q1, q2, q3, q4, q5, q6, q7, ⟨V'.cls, v3, V', v1, rfl, by rw [v4, e, hlen], K4, fun i hi => ?_, fun i hi => ?_⟩, q9⟩, hl, hc, by rw [hs, e]⟩
  · have hi' : i < cs.length := by omega
    rw [v5 i (by omega), hcv i hi']; simp [List.getD_eq_getElem?_getD, hi']
  · have hi' : i < cs.length := by omega
    simp only [List.getD_eq_getElem?_getD, List.getElem?_map, List.getElem?_eq_getElem hi', Option.map_some, Option.getD_some]
    exact fits_lo8 _
end StrChars.Road
namespace StrChars.Road
open Jvm Sem ClassFile Op Lib Jvm.Stand Jvm.Free Jvm.Free.XT
/-- WHAT COMES BACK, in the writer's own shape -/
def QV (Z : State) (x : Addr) (N : Int32) (bs : List Int32) (h : Heap) (n0 : Nat) (v : Option Value) (h' : Heap) (L : List Loc) : Prop := v = none ∧ RoadKit.Fr n0 L ∧ RoadKit.Keep h h' [x] ∧ RoadKit.Exa Z h' x ST ∧ RoadKit.Fld Z h' x ST "coder" "B" (.int 0) ∧
  ∃ (t : Addr) (kb : ClassId), n0 ≤ t ∧ h.size ≤ t ∧ ¬ t = x ∧ RoadKit.Fld Z h' x ST "value" "[B" (.ref t) ∧ RoadKit.Arv Z h' t kb .byte N (bs.map Value.int) (.int 0)
/-- **new String(chars) AT A CALL, FOR THE WRITER**: a char[] of n known ints, each 0 to 255 -/
theorem backV {p : Program} {l : Launch} {e : Env} {R : Room} {s : State} {args : Array Value} {below : List Frame} {len W : Nat} {Z : State} {a0 : Array Value} {h : Heap} (hZ : Z.Warmed39 s.vm) (hw : ∀ d ∈ words, d.before a0 Z = true) {kI : Nat} (wi : (Jvm.Cond.instantiable ST kI).before a0 Z = true)
    {x b : Addr} {kC : ClassId} {cs bs : List Int32} {d v0 c0 : Value} {z N : Int32} {n n0 : Nat} (hx0 : n0 ≤ x) (hh0 : n0 ≤ h.size) (E : RoadKit.Exa Z h x ST) (V : RoadKit.Fld Z h x ST "value" "[B" v0) (C : RoadKit.Fld Z h x ST "coder" "B" c0) (K : RoadKit.Arv Z h b kC .char N (cs.map Value.int) d) (S : RoadKit.Sta Z h ST "COMPACT_STRINGS" "Z" (.int z)) (hz : ¬ z = 0)
    (hn : cs.length = n) (hN : N = Int32.ofNat n) (l0 : 0 < n) (l2 : n ≤ 4000) (hp : ∀ c ∈ cs, ¬ c < 0 ∧ ¬ (255 : Int32) < c) (hb : bs = cs.map (fun c => c.toInt8.toInt32)) (hfr : 4 ≤ R.frames) (hlo : W + 65 ≤ R.locals) :
    Back l R p e below s args (⟨"java/lang/String", "<init>", "([C)V"⟩ : MethodName) len W (fun P a => a = #[.ref x, .ref b] ∧ P.U.heap = h ∧ P.cells + 1 ≤ R.cells ∧ P.slots + n ≤ R.slots)
      (fun P _ v B => ∃ L, QV Z x N bs h n0 v B.U.heap L ∧ B.locs = P.locs ++ L ∧ B.cells = P.cells + 1 ∧ B.slots = P.slots + n) := by
  subst hn hN hb
  refine Back.mono (backArv hZ hw wi E V C K S hz (n32 (by omega)) l0 (by omega) (fun c hc => (hp c hc).2) hfr hlo) (fun P a hp => hp) (fun P a v B hp hq => ?_)
  obtain ⟨L, ⟨q1, q2, q3, q4, q5, q6, q7, ⟨kb, v1, v2⟩, q9⟩, hl, hc, hs⟩ := hq
  exact ⟨L, ⟨q1, fun y hy => by rw [q2 y hy]; exact hx0, q3, q5, q7, h.size, kb, hh0, Nat.le_refl _, Nat.ne_of_gt E.lt, q6, by rw [List.map_map]; exact v2⟩, hl, hc, hs⟩
end StrChars.Road
namespace StrChars
open Jvm Sem ClassFile Op Lib Jvm.Stand Jvm.Free.XT Jvm.Free.ALB Jvm.Free.JM Jvm.Free
open Jvm.Lib.Cold (StaticIs)
def hi8 (x : Int32) : Int32 := lo8 (x >>> ((8 : Int32) &&& 31))
/-- what StringUTF16.getChar makes of two bytes -/
def pairCh (u v : Int32) : Int32 := (((u &&& 255) <<< ((0 : Int32) &&& 31)) ||| ((v &&& 255) <<< ((8 : Int32) &&& 31))).toUInt32.toUInt16.toUInt32.toInt32
theorem lo8_and (x : Int32) : (lo8 x &&& 255).toBitVec.toNat = x.toBitVec.toNat % 256 := by
  have h : (lo8 x).toBitVec = (x.toBitVec.signExtend 8).signExtend 32 := by rw [lo8, Int8.toBitVec_toInt32, Int32.toBitVec_toInt8]
  rw [Int32.toBitVec_and, BitVec.toNat_and, h]
  have e : ((x.toBitVec.signExtend 8).signExtend 32).toNat % 256 = x.toBitVec.toNat % 256 := by
    rw [BitVec.toNat_signExtend]
    have hlt := x.toBitVec.isLt
    simp only [BitVec.toNat_setWidth, BitVec.toNat_signExtend]
    split <;> split <;> omega
  rw [← e]
  exact Nat.and_two_pow_sub_one_eq_mod _ 8
theorem pair_says {c : Int32} (h0 : ¬ c < 0) (h1 : ¬ 65535 < c) : pairCh (lo8 c) (hi8 c) = c := by
  rw [Int32.lt_iff_toInt_lt] at h0 h1
  have e0 : (0 : Int32).toInt = 0 := rfl
  have e1 : (65535 : Int32).toInt = 65535 := rfl
  have hc : c.toInt = c.toBitVec.toNat := by
    have := c.toBitVec.isLt
    have e : c.toInt = c.toBitVec.toInt := rfl
    rw [e] at h0 h1
    rw [e]
    rw [BitVec.toInt_eq_toNat_cond] at h0 h1 ⊢
    split at h0 <;> split <;> omega
  have hn : c.toBitVec.toNat < 65536 := by omega
  have a1 := lo8_and c
  have a2 : (hi8 c &&& 255).toBitVec.toNat = c.toBitVec.toNat / 256 := by
    rw [hi8, lo8_and]
    have e : ((8 : Int32) &&& 31) = 8 := by decide
    rw [e, Int32.toBitVec_shiftRight]
    have e2 : ((8 : Int32).toBitVec.smod 32) = 8#32 := by decide
    rw [e2, BitVec.sshiftRight_eq', BitVec.toNat_sshiftRight_of_msb_false (by rw [BitVec.msb_eq_false_iff_two_mul_lt]; omega)]
    show c.toBitVec.toNat >>> 8 % 256 = _
    rw [Nat.shiftRight_eq_div_pow]
    omega
  unfold pairCh
  apply Int32.toBitVec_inj.mp
  apply BitVec.eq_of_toNat_eq
  have f0 : ((0 : Int32) &&& 31) = 0 := by decide
  have f8 : ((8 : Int32) &&& 31) = 8 := by decide
  rw [f0, f8]
  have g : (((lo8 c &&& 255) <<< (0 : Int32)) ||| ((hi8 c &&& 255) <<< (8 : Int32))).toBitVec.toNat = c.toBitVec.toNat := by
    rw [Int32.toBitVec_or, Int32.toBitVec_shiftLeft, Int32.toBitVec_shiftLeft]
    have s0 : ((0 : Int32).toBitVec.smod 32) = 0#32 := by decide
    have s8 : ((8 : Int32).toBitVec.smod 32) = 8#32 := by decide
    rw [s0, s8, BitVec.toNat_or]
    simp only [BitVec.shiftLeft_eq', BitVec.toNat_shiftLeft, a1, a2]
    show (c.toBitVec.toNat % 256) <<< 0 % 2 ^ 32 ||| (c.toBitVec.toNat / 256) <<< 8 % 2 ^ 32 = _
    rw [Nat.shiftLeft_zero, Nat.mod_eq_of_lt (show c.toBitVec.toNat % 256 < 2 ^ 32 by omega), Nat.mod_eq_of_lt (show (c.toBitVec.toNat / 256) <<< 8 < 2 ^ 32 by rw [Nat.shiftLeft_eq]; omega), Nat.or_comm, ← Nat.shiftLeft_add_eq_or_of_lt (by omega), Nat.shiftLeft_eq]
    omega
  show BitVec.toNat (((((lo8 c &&& 255) <<< (0 : Int32)) ||| ((hi8 c &&& 255) <<< (8 : Int32))).toBitVec.setWidth 16).setWidth 32) = _
  rw [BitVec.toNat_setWidth, BitVec.toNat_setWidth, g]
  omega
end StrChars
namespace StrChars
open Jvm Sem ClassFile Op Lib Jvm.Stand Jvm.Free.XT Jvm.Free.ALB Jvm.Free.JM Jvm.Free
open Jvm.Lib.Cold (StaticIs)
/-- the array's cell V codes the n chars f 0 .. f (n - 1) by the coder cd, as the JDK does: coder 1 just where some char is above 255 -/
def Cod (cd : Int32) (n : Nat) (f : Nat → Int32) (V : Cell) : Prop := (cd = 0 ∧ V.slots.size = n ∧ ∀ j, j < n → V.slots[j]? = some (.int (lo8 (f j))) ∧ ¬ 255 < f j) ∨ (cd = 1 ∧ V.slots.size = 2 * n ∧ (∀ j, j < n → V.slots[2 * j]? = some (.int (lo8 (f j))) ∧ V.slots[2 * j + 1]? = some (.int (hi8 (f j)))) ∧ ∃ j, j < n ∧ 255 < f j)
/-- **x is a String of the n chars f 0 .. f (n - 1)**, Latin-1 or UTF-16; its array at t has the cell V -/
def Txt (x t : Addr) (V : Cell) (cd : Int32) (n : Nat) (f : Nat → Int32) (U : State) : Prop := Exact "java/lang/String" x U ∧ Has x "java/lang/String" "value" "[B" (.ref t) U ∧ Has x "java/lang/String" "coder" "B" (.int cd) U ∧ XT.Arr .byte t V U ∧ Cod cd n f V ∧ ∀ j, j < n → ¬ f j < 0 ∧ ¬ 65535 < f j
theorem Txt.mv {x t : Addr} {V : Cell} {cd : Int32} {n : Nat} {f : Nat → Int32} {U U' : State} (h : Txt x t V cd n f U) (hal : U.vm.Alike U'.vm) (hh : U'.heap = U.heap) : Txt x t V cd n f U' := ⟨h.1.mv hal hh, h.2.1.mv hal hh, h.2.2.1.mv hal hh, h.2.2.2.1.mv hal hh, h.2.2.2.2⟩
end StrChars
namespace StrChars.Road
open Jvm Sem ClassFile Op Lib Jvm.Stand Jvm.Free Jvm.Free.XT
open Jvm.Lib.Cold (StaticIs)
theorem consq {a : Array Value} {s : State} {c : Jvm.Cond} {L : List Jvm.Cond} (h0 : c.before a s = true) (h : ∀ w ∈ L, w.before a s = true) : ∀ w ∈ c :: L, w.before a s = true := fun w hw => (List.mem_cons.mp hw).elim (fun e => e ▸ h0) (h w)
/-- the bytes of the chars cs, low before high -/
def wideBytes : List Int32 → List Value
  | [] => []
  | c :: cs => .int (lo8 c) :: .int (hi8 c) :: wideBytes cs
theorem wide_lo (d : Value) : ∀ (cs : List Int32) (j : Nat), j < cs.length → (wideBytes cs).getD (2 * j) d = .int (lo8 (cs.getD j 0))
  | [], j, h => absurd h (Nat.not_lt_zero j)
  | c :: cs, 0, _ => rfl
  | c :: cs, j + 1, h => by
    have q := wide_lo d cs j (by simpa using h)
    rw [show 2 * (j + 1) = 2 * j + 1 + 1 from by omega]
    simpa [wideBytes] using q
theorem wide_hi (d : Value) : ∀ (cs : List Int32) (j : Nat), j < cs.length → (wideBytes cs).getD (2 * j + 1) d = .int (hi8 (cs.getD j 0))
  | [], j, h => absurd h (Nat.not_lt_zero j)
  | c :: cs, 0, _ => rfl
  | c :: cs, j + 1, h => by
    have q := wide_hi d cs j (by simpa using h)
    rw [show 2 * (j + 1) + 1 = 2 * j + 1 + 1 + 1 from by omega]
    simpa [wideBytes] using q
theorem low_at (d : Value) (cs : List Int32) (j : Nat) (h : j < cs.length) : (cs.map fun c => Value.int (lo8 c)).getD j d = .int (lo8 (cs.getD j 0)) := by
  simp [List.getD_eq_getElem?_getD, h]
/-- an array of N2 bytes vs codes the chars cs by the coder cd -/
def CodA (cs : List Int32) (cd N2 : Int32) (vs : List Value) : Prop := (cd = 0 ∧ N2 = Int32.ofNat cs.length ∧ vs = (cs.map fun c => Value.int (lo8 c)) ∧ ∀ c ∈ cs, ¬ 255 < c) ∨ (cd = 1 ∧ N2 = Int32.ofNat (2 * cs.length) ∧ vs = wideBytes cs ∧ ∃ c ∈ cs, 255 < c)
theorem CodA.cod {cs : List Int32} {cd N2 : Int32} {vs : List Value} {V : Cell} (h : CodA cs cd N2 vs) (hn : 2 * cs.length < 2 ^ 31) (hs : V.slots.size = N2.toNatClampNeg) (hv : RoadKit.Has V vs (.int 0)) : Cod cd cs.length (fun j => cs.getD j 0) V := by
  rcases h with ⟨rfl, rfl, rfl, h⟩ | ⟨rfl, rfl, rfl, c, hc, hw⟩
  · rw [n32 (by omega)] at hs
    exact Or.inl ⟨rfl, hs, fun j hj => ⟨by rw [hv j (by omega), low_at _ _ _ hj], by
      have e : cs.getD j 0 = cs[j] := by simp [List.getD_eq_getElem?_getD, hj]
      show ¬ 255 < cs.getD j 0
      rw [e]; exact h _ (List.getElem_mem _)⟩⟩
  · rw [n32 (by omega)] at hs
    obtain ⟨j, hj, rfl⟩ := List.getElem_of_mem hc
    exact Or.inr ⟨rfl, hs, fun j hj => ⟨by rw [hv _ (by omega), wide_lo _ _ _ hj], by rw [hv _ (by omega), wide_hi _ _ _ hj]⟩, j, hj, by
      have e : cs.getD j 0 = cs[j] := by simp [List.getD_eq_getElem?_getD, hj]
      show 255 < cs.getD j 0
      rw [e]; exact hw⟩
/-- an object of exactly java/lang/String, its two fields found: as the laws ask it -/
theorem strObj {Z U : State} {a0 : Array Value} {kI : Nat} (wi : (Jvm.Cond.instantiable ST kI).before a0 Z = true) (al : Z.vm.Alike U.vm) {x : Addr} {v0 c0 : Value} (E : RoadKit.Exa Z U.heap x ST) (V : RoadKit.Fld Z U.heap x ST "value" "[B" v0) (C : RoadKit.Fld Z U.heap x ST "coder" "B" c0) :
    ∃ (D : Cell) (fV fC : Field), Blank ST x D U ∧ Found ST "value" "[B" fV U ∧ Found ST "coder" "B" fC U ∧ D.slots[fV.slot]? = some v0 ∧ D.slots[fC.slot]? = some c0 ∧ RoadKit.slotOf Z ST "value" "[B" = fV.slot ∧ RoadKit.slotOf Z ST "coder" "B" = fC.slot := by
  obtain ⟨D, cfV, kV, iV, fV, hD, gV, stV, knV, obV, asV, slV⟩ := V
  obtain ⟨D', cfC, kC, iC, fC, hD', gC, stC, -, -, asC, slC⟩ := C
  cases hD.symm.trans hD'
  obtain ⟨D2, kD, e1, e2, e3, e4, e5⟩ := E
  cases hD.symm.trans e1
  obtain ⟨c2, k2, i1, i2, i3, -⟩ := Cond.instantiable_spec wi
  cases e2.symm.trans i1
  cases e3.symm.trans i2
  obtain ⟨kU, u1, u2⟩ := al.2.2 _ _ e3
  exact ⟨D, fV, fC, ⟨hD, ⟨knV, fun q hq => by rw [hq] at obV; cases obV⟩, by rw [al.findClass]; exact e2, kU, u1, by rw [u2]; exact i3, by rw [u2]; exact e5 i3⟩, ⟨SBG.found_only al ⟨cfV, kV, iV, gV⟩, stV⟩, ⟨SBG.found_only al ⟨cfC, kC, iC, gC⟩, stC⟩, slV, slC, by simp [RoadKit.slotOf, gV], by simp [RoadKit.slotOf, gC]⟩
theorem sta_is {Z U : State} (al : Z.vm.Alike U.vm) {C n d : String} {v : Value} (S : RoadKit.Sta Z U.heap C n d v) : StaticIs U C n d v := by
  obtain ⟨cfS, iS, kS, fS, st, cS, t1, t2, t3, t4, t5, t6, t7⟩ := S
  exact StaticIs.there (s := { Z with heap := U.heap }) ⟨cfS, iS, kS, fS, st, cS, t1, t2, t3, t4, t5, (fun q => by rw [q] at t6; cases t6), t7⟩ al rfl
end StrChars.Road
namespace StrChars
open Jvm Sem ClassFile Op Lib Jvm.Stand Jvm.Free.XT Jvm.Free.ALB Jvm.Free.JM Jvm.Free
open Jvm.Lib.Cold (StaticIs)
/-- what place i of a byte[]'s cell holds -/
def yv (A : Cell) (i : Nat) : Int32 := match A.slots[i]? with | some (.int x) => x | _ => 0
theorem yv_get {a : Addr} {A : Cell} {U : State} (h : XT.Arr .byte a A U) (ht : Typed .byte A) {i : Nat} (hi : i < A.slots.size) : A.slots[i]? = some (.int (yv A i)) := by
  have e := Array.getElem?_eq_getElem hi
  have f := ht i _ e
  unfold yv; rw [e]
  generalize A.slots[i] = v at f
  cases v <;> simp [fits] at f ⊢
/-- the two arrays are equal, place for place -/
def EqC (A B : Cell) : Prop := A.slots.size = B.slots.size ∧ ∀ i, i < A.slots.size → yv A i = yv B i
/-- a boolean that says whether p -/
def Says01 (q : Prop) (r : Option Value) (s u : State) : Prop := ∃ v : Int32, r = some (.int v) ∧ u.heap = s.heap ∧ ((v = 1 ∧ q) ∨ (v = 0 ∧ ¬ q))
theorem Says01.mv {q : Prop} : ∀ r (U U' V V' : State), U'.heap = U.heap → V.vm.Alike V'.vm → V'.heap = V.heap → Says01 q r U V → Says01 q r U' V' :=
  fun r U U' V V' h1 _ h2 ⟨v, a, b, c⟩ => ⟨v, a, by rw [h1, h2]; exact b, c⟩
namespace LEq
def yN : MethodName := ⟨"java/lang/StringLatin1", "equals", "([B[B)Z"⟩
abbrev yB : ByteArray := jdk_43_method_13_code
theorem d0 : decode yB 0 = .ok (.aload_n 0, 1) := by decide +kernel
theorem d1 : decode yB 1 = .ok (.arraylength, 1) := by decide +kernel
theorem d2 : decode yB 2 = .ok (.aload_n 1, 1) := by decide +kernel
theorem d3 : decode yB 3 = .ok (.arraylength, 1) := by decide +kernel
theorem d4 : decode yB 4 = .ok (.if_icmp (.ne) 30, 3) := by decide +kernel
theorem d7 : decode yB 7 = .ok (.iconst 0, 1) := by decide +kernel
theorem d8 : decode yB 8 = .ok (.istore_n 2, 1) := by decide +kernel
theorem d9 : decode yB 9 = .ok (.iload_n 2, 1) := by decide +kernel
theorem d10 : decode yB 10 = .ok (.aload_n 0, 1) := by decide +kernel
theorem d11 : decode yB 11 = .ok (.arraylength, 1) := by decide +kernel
theorem d12 : decode yB 12 = .ok (.if_icmp (.ge) 20, 3) := by decide +kernel
theorem d15 : decode yB 15 = .ok (.aload_n 0, 1) := by decide +kernel
theorem d16 : decode yB 16 = .ok (.iload_n 2, 1) := by decide +kernel
theorem d17 : decode yB 17 = .ok (.baload, 1) := by decide +kernel
theorem d18 : decode yB 18 = .ok (.aload_n 1, 1) := by decide +kernel
theorem d19 : decode yB 19 = .ok (.iload_n 2, 1) := by decide +kernel
theorem d20 : decode yB 20 = .ok (.baload, 1) := by decide +kernel
theorem d21 : decode yB 21 = .ok (.if_icmp (.eq) 5, 3) := by decide +kernel
theorem d24 : decode yB 24 = .ok (.iconst 0, 1) := by decide +kernel
theorem d25 : decode yB 25 = .ok (.ireturn, 1) := by decide +kernel
theorem d26 : decode yB 26 = .ok (.iinc 2 1, 3) := by decide +kernel
theorem d29 : decode yB 29 = .ok (.goto (-20), 3) := by decide +kernel
theorem d32 : decode yB 32 = .ok (.iconst 1, 1) := by decide +kernel
theorem d33 : decode yB 33 = .ok (.ireturn, 1) := by decide +kernel
theorem d34 : decode yB 34 = .ok (.iconst 0, 1) := by decide +kernel
theorem d35 : decode yB 35 = .ok (.ireturn, 1) := by decide +kernel
def site : List Cond := []
def tab : Cond := tabOf yN yB 3 (some .boolean) site
def P (a : Addr) (A : Cell) (b : Addr) (B : Cell) (args : Array Value) (s : State) : Prop := args = #[.ref a, .ref b] ∧ XT.Arr .byte a A s ∧ Typed .byte A ∧ XT.Arr .byte b B s ∧ Typed .byte B
/-- whether two byte[] are equal, place for place -/
theorem law (l : Launch) (a : Addr) (A : Cell) (b : Addr) (B : Cell) : Law l yN 2 2 0 0 yB 3 (some .boolean) site (P a A b B) (Says01 (EqC A B)) [] 0 0 := by
  refine Law.of_walk (plainFor_of_name (by decide +kernel)) (by decide +kernel) (by decide +kernel) (by decide) (fun _ _ h => by rw [h.1]; rfl) (fun _ U U' hal hh h => ⟨h.1, h.2.1.mv hal hh, h.2.2.1, h.2.2.2.1.mv hal hh, h.2.2.2.2⟩) (fun r U U' V V' h1 hal h2 h => Says01.mv r U U' V V' h1 hal h2 h) ?_
  intro p e s m args below meth c s₁ X0 hexec hbytes hml hret hlk hnm hown hh0 W hP
  obtain ⟨rfl, hA, tA, hB, tB⟩ := hP
  have a31 := hA.2.2.2
  have b31 := hB.2.2.2
  have hA0 := hA.mv X0.warmed.alike hh0
  have hB0 := hB.mv X0.warmed.alike hh0
  have c1 : Steps p.tables e below (s₁.setTop (entryFrame m #[.ref a, .ref b] 3)) (s₁.setTop (mkF m 0 #[.val (.ref a), .val (.ref b), .unset] [])) := entry rfl
  have c2 : Steps p.tables e below (s₁.setTop (entryFrame m #[.ref a, .ref b] 3)) (s₁.setTop (mkF m 4 #[.val (.ref a), .val (.ref b), .unset] [.int (Int32.ofNat B.slots.size), .int (Int32.ofNat A.slots.size)])) := c1.trans (by
    refine XS.aloadN X0.here hexec rfl (hb hbytes d0) rfl rfl ?_
    refine X0.alen hexec hA0 rfl rfl (hb hbytes d1) ?_
    refine XS.aloadN X0.here hexec rfl (hb hbytes d2) rfl rfl ?_
    refine X0.alen hexec hB0 rfl rfl (hb hbytes d3) ?_
    exact Steps.refl _)
  by_cases hs : A.slots.size = B.slots.size
  · have c3 : Steps p.tables e below (s₁.setTop (entryFrame m #[.ref a, .ref b] 3)) (s₁.setTop (mkF m 9 #[.val (.ref a), .val (.ref b), .val (.int 0)] [])) := c2.trans (by
      refine XS.icmpNo X0.here hexec rfl (hb hbytes d4) rfl (ii_ne_f (by rw [hs])) ?_
      refine iconstV X0.here hexec rfl 0 (hb hbytes d7) (by decide) ?_
      refine XS.istoreN X0.here hexec rfl (hb hbytes d8) rfl rfl ?_
      exact Steps.refl _)
    have loop : ∀ (r i : Nat), i + r = A.slots.size → (∀ j, j < i → yv A j = yv B j) → Steps p.tables e below (s₁.setTop (entryFrame m #[.ref a, .ref b] 3)) (s₁.setTop (mkF m 9 #[.val (.ref a), .val (.ref b), .val (.int (Int32.ofNat i))] [])) → ∃ (pc : Nat) (Ls : Array Slot) (v : Int32), (pc = 25 ∨ pc = 33) ∧ ((v = 1 ∧ EqC A B) ∨ (v = 0 ∧ ¬ EqC A B)) ∧ Steps p.tables e below (s₁.setTop (entryFrame m #[.ref a, .ref b] 3)) (s₁.setTop (mkF m pc Ls [.int v])) := by
      intro r
      induction r with
      | zero =>
        intro i hi he cl
        exact ⟨33, _, 1, Or.inr rfl, Or.inl ⟨rfl, hs, fun j hj => he j (by omega)⟩, cl.trans (by
          refine XS.iloadN X0.here hexec rfl (hb hbytes d9) rfl ?_
          refine XS.aloadN X0.here hexec rfl (hb hbytes d10) rfl rfl ?_
          refine X0.alen hexec hA0 rfl rfl (hb hbytes d11) ?_
          refine XS.icmpYes X0.here hexec rfl (pc0 := 12) rfl (hb hbytes d12) rfl (ii_ge_t (nlt32 (by omega) (by omega))) (by decide) rfl ?_
          refine iconstV X0.here hexec rfl 1 (hb hbytes d32) (by decide) ?_
          exact Steps.refl _)⟩
      | succ r ih =>
        intro i hi he cl
        have c4 : Steps p.tables e below (s₁.setTop (entryFrame m #[.ref a, .ref b] 3)) (s₁.setTop (mkF m 21 #[.val (.ref a), .val (.ref b), .val (.int (Int32.ofNat i))] [.int (yv B i), .int (yv A i)])) := cl.trans (by
          refine XS.iloadN X0.here hexec rfl (hb hbytes d9) rfl ?_
          refine XS.aloadN X0.here hexec rfl (hb hbytes d10) rfl rfl ?_
          refine X0.alen hexec hA0 rfl rfl (hb hbytes d11) ?_
          refine XS.icmpNo X0.here hexec rfl (hb hbytes d12) rfl (ii_ge_f (lt32 (by omega) (by omega))) ?_
          refine XS.aloadN X0.here hexec rfl (hb hbytes d15) rfl rfl ?_
          refine XS.iloadN X0.here hexec rfl (hb hbytes d16) rfl ?_
          refine X0.aget hexec hA0 rfl (yv_get hA tA (i := i) (by omega)) rfl rfl (hb hbytes d17) ?_
          refine XS.aloadN X0.here hexec rfl (hb hbytes d18) rfl rfl ?_
          refine XS.iloadN X0.here hexec rfl (hb hbytes d19) rfl ?_
          refine X0.aget hexec hB0 rfl (yv_get hB tB (i := i) (by omega)) rfl rfl (hb hbytes d20) ?_
          exact Steps.refl _)
        by_cases hv : yv A i = yv B i
        · have c5 : Steps p.tables e below (s₁.setTop (entryFrame m #[.ref a, .ref b] 3)) (s₁.setTop (mkF m 9 #[.val (.ref a), .val (.ref b), .val (.int (Int32.ofNat i + 1))] [])) := c4.trans (by
            refine XS.icmpYes X0.here hexec rfl (pc0 := 21) rfl (hb hbytes d21) rfl (ii_eq_t hv) (by decide) rfl ?_
            refine iincV X0.here hexec rfl 1 (hb hbytes d26) (by decide) rfl rfl ?_
            refine XS.goto X0.here hexec rfl (pc0 := 29) rfl (hb hbytes d29) (by decide) rfl ?_
            exact Steps.refl _)
          rw [succ32] at c5
          exact ih (i + 1) (by omega) (fun j hj => by
            by_cases e : j = i
            · rw [e]; exact hv
            · exact he j (by omega)) c5
        · exact ⟨25, _, 0, Or.inl rfl, Or.inr ⟨rfl, fun q => hv (q.2 i (by omega))⟩, c4.trans (by
            refine XS.icmpNo X0.here hexec rfl (hb hbytes d21) rfl (ii_eq_f hv) ?_
            refine iconstV X0.here hexec rfl 0 (hb hbytes d24) (by decide) ?_
            exact Steps.refl _)⟩
    obtain ⟨pc, Ls, v, hpc, hv, cz⟩ := loop A.slots.size 0 (by omega) (fun j hj => absurd hj (Nat.not_lt_zero j)) c3
    have nv : narrow .boolean (.int v) = .int v := by rcases hv with ⟨rfl, -⟩ | ⟨rfl, -⟩ <;> rfl
    rcases hpc with rfl | rfl
    · exact ⟨s₁, some (.int v), _, _, _, X0, rfl, rfl, rfl, (fun h => by cases h), ⟨v, rfl, hh0, hv⟩, fun fs hl => cz.trans (X0.ireturnOut hexec hret nv (Or.inr (Or.inl rfl)) (hb hbytes d25) hl)⟩
    · exact ⟨s₁, some (.int v), _, _, _, X0, rfl, rfl, rfl, (fun h => by cases h), ⟨v, rfl, hh0, hv⟩, fun fs hl => cz.trans (X0.ireturnOut hexec hret nv (Or.inr (Or.inl rfl)) (hb hbytes d33) hl)⟩
  · have c3 : Steps p.tables e below (s₁.setTop (entryFrame m #[.ref a, .ref b] 3)) (s₁.setTop (mkF m 35 #[.val (.ref a), .val (.ref b), .unset] [.int 0])) := c2.trans (by
      refine XS.icmpYes X0.here hexec rfl (pc0 := 4) rfl (hb hbytes d4) rfl (ii_ne_t (ne32 a31 b31 hs)) (by decide) rfl ?_
      refine iconstV X0.here hexec rfl 0 (hb hbytes d34) (by decide) ?_
      exact Steps.refl _)
    exact ⟨s₁, some (.int 0), _, _, _, X0, rfl, rfl, rfl, (fun h => by cases h), ⟨0, rfl, hh0, Or.inr ⟨rfl, fun q => hs q.1⟩⟩, fun fs hl => c3.trans (X0.ireturnOut hexec hret rfl (Or.inr (Or.inl rfl)) (hb hbytes d35) hl)⟩
end LEq
theorem Cod.ty {cd : Int32} {n : Nat} {f : Nat → Int32} {V : Cell} (h : Cod cd n f V) : Typed .byte V := fun i v hv => by
  have hi : i < V.slots.size := (Array.getElem?_eq_some_iff.mp hv).1
  rcases h with ⟨-, k1, k2⟩ | ⟨-, k1, k2, -⟩
  · rw [(k2 i (by omega)).1] at hv; cases hv; exact fits_lo8 _
  · rcases Nat.mod_two_eq_zero_or_one i with e | e
    · obtain ⟨j, rfl⟩ : ∃ j, i = 2 * j := ⟨i / 2, by omega⟩
      rw [(k2 j (by omega)).1] at hv; cases hv; exact fits_lo8 _
    · obtain ⟨j, rfl⟩ : ∃ j, i = 2 * j + 1 := ⟨i / 2, by omega⟩
      rw [(k2 j (by omega)).2] at hv; cases hv; exact fits_lo8 _
/-- the same text -/
def SameT (n : Nat) (f : Nat → Int32) (k : Nat) (g : Nat → Int32) : Prop := n = k ∧ ∀ j, j < n → f j = g j
theorem lo8_inj {x y : Int32} (h0 : ¬ x < 0) (h1 : ¬ 255 < x) (k0 : ¬ y < 0) (k1 : ¬ 255 < y) (h : lo8 x = lo8 y) : x = y := by
  rw [← lo8_mask h0 h1, ← lo8_mask k0 k1, h]
/-- arrays coded by one coder are equal just where the texts are -/
theorem Cod.eqv {cd : Int32} {n k : Nat} {f g : Nat → Int32} {V V' : Cell} (h : Cod cd n f V) (h' : Cod cd k g V') (hf : ∀ j, j < n → ¬ f j < 0 ∧ ¬ 65535 < f j) (hg : ∀ j, j < k → ¬ g j < 0 ∧ ¬ 65535 < g j) : EqC V V' ↔ SameT n f k g := by
  have yvv : ∀ {W : Cell} {i : Nat} {x : Int32}, W.slots[i]? = some (.int x) → yv W i = x := fun q => by unfold yv; rw [q]
  rcases h with ⟨rfl, k1, k2⟩ | ⟨rfl, k1, k2, -⟩
  · rcases h' with ⟨-, m1, m2⟩ | ⟨e, -⟩
    · constructor
      · rintro ⟨e1, e2⟩
        refine ⟨by omega, fun j hj => ?_⟩
        have q := e2 j (by omega)
        rw [yvv (k2 j hj).1, yvv (m2 j (by omega)).1] at q
        exact lo8_inj (hf j hj).1 (k2 j hj).2 (hg j (by omega)).1 (m2 j (by omega)).2 q
      · rintro ⟨rfl, e2⟩
        refine ⟨by omega, fun j hj => ?_⟩
        rw [yvv (k2 j (by omega)).1, yvv (m2 j (by omega)).1, e2 j (by omega)]
    · exact absurd e (by decide)
  · rcases h' with ⟨e, -⟩ | ⟨-, m1, m2, -⟩
    · exact absurd e (by decide)
    · constructor
      · rintro ⟨e1, e2⟩
        refine ⟨by omega, fun j hj => ?_⟩
        have q1 := e2 (2 * j) (by omega)
        have q2 := e2 (2 * j + 1) (by omega)
        rw [yvv (k2 j hj).1, yvv (m2 j (by omega)).1] at q1
        rw [yvv (k2 j hj).2, yvv (m2 j (by omega)).2] at q2
        rw [← pair_says (hf j hj).1 (hf j hj).2, ← pair_says (hg j (by omega)).1 (hg j (by omega)).2, q1, q2]
      · rintro ⟨rfl, e2⟩
        refine ⟨by omega, fun i hi => ?_⟩
        rcases Nat.mod_two_eq_zero_or_one i with e | e
        · obtain ⟨j, rfl⟩ : ∃ j, i = 2 * j := ⟨i / 2, by omega⟩
          rw [yvv (k2 j (by omega)).1, yvv (m2 j (by omega)).1, e2 j (by omega)]
        · obtain ⟨j, rfl⟩ : ∃ j, i = 2 * j + 1 := ⟨i / 2, by omega⟩
          rw [yvv (k2 j (by omega)).2, yvv (m2 j (by omega)).2, e2 j (by omega)]
/-- two codings differ: so do the texts -/
theorem Cod.dif {cd cd' : Int32} {n k : Nat} {f g : Nat → Int32} {V V' : Cell} (h : Cod cd n f V) (h' : Cod cd' k g V') (hne : ¬ cd = cd') : ¬ SameT n f k g := by
  rintro ⟨rfl, e⟩
  rcases h with ⟨rfl, -, k2⟩ | ⟨rfl, -, -, j, hj, hw⟩
  · rcases h' with ⟨rfl, -⟩ | ⟨-, -, -, j, hj, hw⟩
    · exact hne rfl
    · exact (k2 j hj).2 (by rw [e j hj]; exact hw)
  · rcases h' with ⟨-, -, m2⟩ | ⟨rfl, -⟩
    · exact (m2 j hj).2 (by rw [← e j hj]; exact hw)
    · exact hne rfl
/-- an object of exactly C is an instance of C -/
theorem cinst {p : Program} {l : Launch} {e : Env} {R : Room} {s : State} {m : MethodId} {args : Array Value} {below : List Frame} {meth : Method} {c : Code} {T : State} {locs : List Loc} {cells slots : Nat} (X : Stand p l e R s m args below meth c T locs cells slots) (hexec : p.tables.exec = Jvm.exec) {own C : String} {index : Nat} (hown : s.vm.findClass own = some m.cls) (hlink : (Cond.classLink own index C).before args s = true) {a : Addr} (hE : Exact C a T)
    {g : JFrame} (hg : g.method = m) {rest : List Value} (hstack : g.stack = .ref a :: rest) (hdg : decode c.code g.pc = .ok (.instanceof index, 3)) :
    ∃ T', Stand p l e R s m args below meth c T' locs cells slots ∧ T'.heap = T.heap ∧ ∀ target, Steps p.tables e below (T'.setTop { g with pc := g.pc + 3, stack := .int 1 :: rest }) target → Steps p.tables e below (T.setTop g) target := by
  obtain ⟨cB, h1, D, h2, h3, h4⟩ := hE
  have h1' : s.vm.findClass C = some cB := by rw [← X.warmed.alike.findClass]; exact h1
  obtain ⟨vm', X', st⟩ := X.instanceofYes hexec hown hlink h2 h4 h1' (by rw [h3]; exact Jvm.Free.SB.assignable_self _ _) hg hstack hdg
  exact ⟨_, X', rfl, st⟩
theorem cself {p : Program} {l : Launch} {e : Env} {R : Room} {s : State} {m : MethodId} {args : Array Value} {below : List Frame} {meth : Method} {c : Code} {T : State} {locs : List Loc} {cells slots : Nat} (X : Stand p l e R s m args below meth c T locs cells slots) (hexec : p.tables.exec = Jvm.exec) {own C : String} {index : Nat} (hown : s.vm.findClass own = some m.cls) (hlink : (Cond.classLink own index C).before args s = true) {a : Addr} (hE : Exact C a T)
    {g : JFrame} (hg : g.method = m) {rest : List Value} (hstack : g.stack = .ref a :: rest) (hdg : decode c.code g.pc = .ok (.checkcast index, 3)) :
    ∃ T', Stand p l e R s m args below meth c T' locs cells slots ∧ T'.heap = T.heap ∧ ∀ target, Steps p.tables e below (T'.setTop { g with pc := g.pc + 3, stack := .ref a :: rest }) target → Steps p.tables e below (T.setTop g) target := by
  obtain ⟨cB, h1, D, h2, h3, h4⟩ := hE
  have h1' : s.vm.findClass C = some cB := by rw [← X.warmed.alike.findClass]; exact h1
  obtain ⟨vm', X', st⟩ := X.checkcastYes hexec hown hlink h2 h4 h1' (by rw [h3]; exact Jvm.Free.SB.assignable_self _ _) hg hstack hdg
  exact ⟨_, X', rfl, fun t h => st t (by rw [← hstack] at h; exact h)⟩
namespace SEq
def yN : MethodName := ⟨"java/lang/String", "equals", "(Ljava/lang/Object;)Z"⟩
abbrev yB : ByteArray := jdk_42_method_66_code
theorem d0 : decode yB 0 = .ok (.aload_n 0, 1) := by decide +kernel
theorem d1 : decode yB 1 = .ok (.aload_n 1, 1) := by decide +kernel
theorem d2 : decode yB 2 = .ok (.if_acmp (.ne) 5, 3) := by decide +kernel
theorem d5 : decode yB 5 = .ok (.iconst 1, 1) := by decide +kernel
theorem d6 : decode yB 6 = .ok (.ireturn, 1) := by decide +kernel
theorem d7 : decode yB 7 = .ok (.aload_n 1, 1) := by decide +kernel
theorem d8 : decode yB 8 = .ok (.instanceof 10, 3) := by decide +kernel
theorem d11 : decode yB 11 = .ok (.ifCond (.eq) 43, 3) := by decide +kernel
theorem d14 : decode yB 14 = .ok (.aload_n 1, 1) := by decide +kernel
theorem d15 : decode yB 15 = .ok (.checkcast 10, 3) := by decide +kernel
theorem d18 : decode yB 18 = .ok (.astore_n 2, 1) := by decide +kernel
theorem d19 : decode yB 19 = .ok (.getstatic 38, 3) := by decide +kernel
theorem d22 : decode yB 22 = .ok (.ifCond (.eq) 14, 3) := by decide +kernel
theorem d25 : decode yB 25 = .ok (.aload_n 0, 1) := by decide +kernel
theorem d26 : decode yB 26 = .ok (.getfield 15, 3) := by decide +kernel
theorem d29 : decode yB 29 = .ok (.aload_n 2, 1) := by decide +kernel
theorem d30 : decode yB 30 = .ok (.getfield 15, 3) := by decide +kernel
theorem d33 : decode yB 33 = .ok (.if_icmp (.ne) 21, 3) := by decide +kernel
theorem d36 : decode yB 36 = .ok (.aload_n 0, 1) := by decide +kernel
theorem d37 : decode yB 37 = .ok (.getfield 9, 3) := by decide +kernel
theorem d40 : decode yB 40 = .ok (.aload_n 2, 1) := by decide +kernel
theorem d41 : decode yB 41 = .ok (.getfield 9, 3) := by decide +kernel
theorem d44 : decode yB 44 = .ok (.invokestatic 541, 3) := by decide +kernel
theorem d47 : decode yB 47 = .ok (.ifCond (.eq) 7, 3) := by decide +kernel
theorem d50 : decode yB 50 = .ok (.iconst 1, 1) := by decide +kernel
theorem d51 : decode yB 51 = .ok (.goto 4, 3) := by decide +kernel
theorem d54 : decode yB 54 = .ok (.iconst 0, 1) := by decide +kernel
theorem d55 : decode yB 55 = .ok (.ireturn, 1) := by decide +kernel
def site : List Cond := [.classLink "java/lang/String" 10 "java/lang/String", .fieldLink "java/lang/String" 38 "java/lang/String" "COMPACT_STRINGS" "Z", .fieldLink "java/lang/String" 15 "java/lang/String" "coder" "B", .fieldLink "java/lang/String" 9 "java/lang/String" "value" "[B", LEq.tab] ++ staticW "java/lang/String" 541 LEq.yN
def tab : Cond := tabOf yN yB 3 (some .boolean) site
def P (x t : Addr) (V : Cell) (cd : Int32) (n : Nat) (f : Nat → Int32) (y t' : Addr) (V' : Cell) (cd' : Int32) (k : Nat) (g : Nat → Int32) (z : Int32) (args : Array Value) (s : State) : Prop := args = #[.ref x, .ref y] ∧ Txt x t V cd n f s ∧ Txt y t' V' cd' k g s ∧ StaticIs s "java/lang/String" "COMPACT_STRINGS" "Z" (.int z) ∧ ¬ z = 0
/-- equals(Object) of two Strings: whether the texts are the same -/
theorem law (l : Launch) (x t : Addr) (V : Cell) (cd : Int32) (n : Nat) (f : Nat → Int32) (y t' : Addr) (V' : Cell) (cd' : Int32) (k : Nat) (g : Nat → Int32) (z : Int32) : Law l yN 2 1 1 14 yB 3 (some .boolean) site (P x t V cd n f y t' V' cd' k g z) (Says01 (SameT n f k g)) [] 0 0 := by
  refine Law.of_walk (plainFor_of_name (by decide +kernel)) (by decide +kernel) (by decide +kernel) (by decide) (fun _ _ h => by rw [h.1]; rfl) (fun _ U U' hal hh h => ⟨h.1, h.2.1.mv hal hh, h.2.2.1.mv hal hh, h.2.2.2.1.there hal hh, h.2.2.2.2⟩) (fun r U U' V V' h1 hal h2 h => Says01.mv r U U' V V' h1 hal h2 h) ?_
  intro p e s m args below meth c s₁ X0 hexec hbytes hml hret hlk hnm hown hh0 W hP
  obtain ⟨rfl, hx, hy, s1, hz⟩ := hP
  have c1 : Steps p.tables e below (s₁.setTop (entryFrame m #[.ref x, .ref y] 3)) (s₁.setTop (mkF m 2 #[.val (.ref x), .val (.ref y), .unset] [.ref y, .ref x])) := Steps.trans (entry rfl) (by
    show Steps p.tables e below (s₁.setTop (mkF m 0 #[.val (.ref x), .val (.ref y), .unset] [])) _
    refine XS.aloadN X0.here hexec rfl (hb hbytes d0) rfl rfl ?_
    refine XS.aloadN X0.here hexec rfl (hb hbytes d1) rfl rfl ?_
    exact Steps.refl _)
  by_cases hxy : x = y
  · have c2 : Steps p.tables e below (s₁.setTop (entryFrame m #[.ref x, .ref y] 3)) (s₁.setTop (mkF m 6 #[.val (.ref x), .val (.ref y), .unset] [.int 1])) := c1.trans (by
      refine acmpNo X0.here hexec rfl (hb hbytes d2) rfl rfl rfl (by simp [acmp, hxy]) ?_
      refine iconstV X0.here hexec rfl 1 (hb hbytes d5) (by decide) ?_
      exact Steps.refl _)
    subst hxy
    have ec : cd = cd' := by
      obtain ⟨D, fd, a1, a2, a3⟩ := hx.2.2.1
      obtain ⟨D', fd', b1, b2, b3⟩ := hy.2.2.1
      cases a1.symm.trans b1
      obtain ⟨q1, q2, q3, q4⟩ := a2.1
      obtain ⟨r1, r2, r3, r4⟩ := b2.1
      cases q4.symm.trans r4
      cases a3.symm.trans b3; rfl
    have et : t = t' := by
      obtain ⟨D, fd, a1, a2, a3⟩ := hx.2.1
      obtain ⟨D', fd', b1, b2, b3⟩ := hy.2.1
      cases a1.symm.trans b1
      obtain ⟨q1, q2, q3, q4⟩ := a2.1
      obtain ⟨r1, r2, r3, r4⟩ := b2.1
      cases q4.symm.trans r4
      cases a3.symm.trans b3; rfl
    subst ec et
    have ev : V = V' := by cases hx.2.2.2.1.1.symm.trans hy.2.2.2.1.1; rfl
    subst ev
    have hs : SameT n f k g := (Cod.eqv hx.2.2.2.2.1 hy.2.2.2.2.1 hx.2.2.2.2.2 hy.2.2.2.2.2).mp ⟨rfl, fun _ _ => rfl⟩
    exact ⟨s₁, some (.int 1), _, _, _, X0, rfl, rfl, rfl, (fun h => by cases h), ⟨1, rfl, hh0, Or.inl ⟨rfl, hs⟩⟩, fun fs hl => c2.trans (X0.ireturnOut hexec hret rfl (Or.inr (Or.inl rfl)) (hb hbytes d6) hl)⟩
  · have c2 : Steps p.tables e below (s₁.setTop (entryFrame m #[.ref x, .ref y] 3)) (s₁.setTop (mkF m 8 #[.val (.ref x), .val (.ref y), .unset] [.ref y])) := c1.trans (by
      refine acmpYes X0.here hexec rfl (pc0 := 2) rfl (hb hbytes d2) rfl rfl rfl (by simp [acmp, hxy]) (by decide) rfl ?_
      refine XS.aloadN X0.here hexec rfl (hb hbytes d7) rfl rfl ?_
      exact Steps.refl _)
    obtain ⟨T3, X3, q3, st3⟩ := cinst X0 hexec hown (wk W (.classLink "java/lang/String" 10 "java/lang/String")) (hy.mv X0.warmed.alike hh0).1 (g := (mkF m 8 #[.val (.ref x), .val (.ref y), .unset] [.ref y])) rfl (rest := []) rfl (hb hbytes d8)
    have hh3 := q3.trans hh0
    have c4 : Steps p.tables e below (s₁.setTop (entryFrame m #[.ref x, .ref y] 3)) (T3.setTop (mkF m 15 #[.val (.ref x), .val (.ref y), .unset] [.ref y])) := (c2.trans (st3 _ (Steps.refl _))).trans (by
      refine XS.ifNo X3.here hexec rfl (hb hbytes d11) rfl (i0_eq_f (by decide)) ?_
      refine XS.aloadN X3.here hexec rfl (hb hbytes d14) rfl rfl ?_
      exact Steps.refl _)
    obtain ⟨T5, X5, q5, st5⟩ := cself X3 hexec hown (wk W (.classLink "java/lang/String" 10 "java/lang/String")) (hy.mv X3.warmed.alike hh3).1 (g := (mkF m 15 #[.val (.ref x), .val (.ref y), .unset] [.ref y])) rfl (rest := []) rfl (hb hbytes d15)
    have hh5 := q5.trans hh3
    have c6 : Steps p.tables e below (s₁.setTop (entryFrame m #[.ref x, .ref y] 3)) (T5.setTop (mkF m 19 #[.val (.ref x), .val (.ref y), .val (.ref y)] [])) := (c4.trans (st5 _ (Steps.refl _))).trans (by
      refine XS.astoreN X5.here hexec rfl (hb hbytes d18) rfl rfl rfl ?_
      exact Steps.refl _)
    obtain ⟨T7, X7, q7, st7⟩ := X5.sget hexec hown (wk W (.fieldLink "java/lang/String" 38 "java/lang/String" "COMPACT_STRINGS" "Z")) s1 (fun _ _ h => by rw [hh5]; exact h) (g := (mkF m 19 #[.val (.ref x), .val (.ref y), .val (.ref y)] [])) rfl (hb hbytes d19)
    have hh7 := q7.trans hh5
    have c8 : Steps p.tables e below (s₁.setTop (entryFrame m #[.ref x, .ref y] 3)) (T7.setTop (mkF m 26 #[.val (.ref x), .val (.ref y), .val (.ref y)] [.ref x])) := (c6.trans (st7 _ (Steps.refl _))).trans (by
      refine XS.ifNo X7.here hexec rfl (hb hbytes d22) rfl (i0_eq_f hz) ?_
      refine XS.aloadN X7.here hexec rfl (hb hbytes d25) rfl rfl ?_
      exact Steps.refl _)
    obtain ⟨T9, X9, q9, st9⟩ := X7.hget hexec hown (wk W (.fieldLink "java/lang/String" 15 "java/lang/String" "coder" "B")) (hx.mv X7.warmed.alike hh7).2.2.1 (g := (mkF m 26 #[.val (.ref x), .val (.ref y), .val (.ref y)] [.ref x])) rfl (rest := []) rfl (hb hbytes d26)
    have hh9 := q9.trans hh7
    have c10 : Steps p.tables e below (s₁.setTop (entryFrame m #[.ref x, .ref y] 3)) (T9.setTop (mkF m 30 #[.val (.ref x), .val (.ref y), .val (.ref y)] [.ref y, .int cd])) := (c8.trans (st9 _ (Steps.refl _))).trans (by
      refine XS.aloadN X9.here hexec rfl (hb hbytes d29) rfl rfl ?_
      exact Steps.refl _)
    obtain ⟨T11, X11, q11, st11⟩ := X9.hget hexec hown (wk W (.fieldLink "java/lang/String" 15 "java/lang/String" "coder" "B")) (hy.mv X9.warmed.alike hh9).2.2.1 (g := (mkF m 30 #[.val (.ref x), .val (.ref y), .val (.ref y)] [.ref y, .int cd])) rfl (rest := [.int cd]) rfl (hb hbytes d30)
    have hh11 := q11.trans hh9
    have c12 : Steps p.tables e below (s₁.setTop (entryFrame m #[.ref x, .ref y] 3)) (T11.setTop (mkF m 33 #[.val (.ref x), .val (.ref y), .val (.ref y)] [.int cd', .int cd])) := c10.trans (st11 _ (Steps.refl _))
    by_cases hcd : cd = cd'
    · subst hcd
      have c13 : Steps p.tables e below (s₁.setTop (entryFrame m #[.ref x, .ref y] 3)) (T11.setTop (mkF m 37 #[.val (.ref x), .val (.ref y), .val (.ref y)] [.ref x])) := c12.trans (by
        refine XS.icmpNo X11.here hexec rfl (hb hbytes d33) rfl (ii_ne_f rfl) ?_
        refine XS.aloadN X11.here hexec rfl (hb hbytes d36) rfl rfl ?_
        exact Steps.refl _)
      obtain ⟨T14, X14, q14, st14⟩ := X11.hget hexec hown (wk W (.fieldLink "java/lang/String" 9 "java/lang/String" "value" "[B")) (hx.mv X11.warmed.alike hh11).2.1 (g := (mkF m 37 #[.val (.ref x), .val (.ref y), .val (.ref y)] [.ref x])) rfl (rest := []) rfl (hb hbytes d37)
      have hh14 := q14.trans hh11
      have c15 : Steps p.tables e below (s₁.setTop (entryFrame m #[.ref x, .ref y] 3)) (T14.setTop (mkF m 41 #[.val (.ref x), .val (.ref y), .val (.ref y)] [.ref y, .ref t])) := (c13.trans (st14 _ (Steps.refl _))).trans (by
        refine XS.aloadN X14.here hexec rfl (hb hbytes d40) rfl rfl ?_
        exact Steps.refl _)
      obtain ⟨T16, X16, q16, st16⟩ := X14.hget hexec hown (wk W (.fieldLink "java/lang/String" 9 "java/lang/String" "value" "[B")) (hy.mv X14.warmed.alike hh14).2.1 (g := (mkF m 41 #[.val (.ref x), .val (.ref y), .val (.ref y)] [.ref y, .ref t])) rfl (rest := [.ref t]) rfl (hb hbytes d41)
      have hh16 := q16.trans hh14
      have c17 : Steps p.tables e below (s₁.setTop (entryFrame m #[.ref x, .ref y] 3)) (T16.setTop (mkF m 44 #[.val (.ref x), .val (.ref y), .val (.ref y)] [.ref t', .ref t])) := c15.trans (st16 _ (Steps.refl _))
      obtain ⟨v18, T18, X18, E18, g18⟩ := X16.callS hexec (LEq.law l t V t' V') hown (wks W (staticW "java/lang/String" 541 LEq.yN)) (wk W LEq.tab) (W := 0) (Nat.le_of_ble_eq_true rfl) (Nat.le_of_ble_eq_true rfl) (Nat.le_refl _) (Nat.le_refl _) (g := (mkF m 44 #[.val (.ref x), .val (.ref y), .val (.ref y)] [.ref t', .ref t])) rfl (by rw [hml]; rfl) c17 (argsL := [.ref t, .ref t']) (rest := []) rfl rfl (by show 2 * 0 + 0 ≤ _; decide) (hb hbytes d44) (⟨rfl, hx.2.2.2.1.mv X16.warmed.alike hh16, hx.2.2.2.2.1.ty, hy.2.2.2.1.mv X16.warmed.alike hh16, hy.2.2.2.2.1.ty⟩)
      obtain ⟨v, rfl, q18, hv⟩ := E18
      have iff := Cod.eqv hx.2.2.2.2.1 hy.2.2.2.2.1 hx.2.2.2.2.2 hy.2.2.2.2.2
      rcases hv with ⟨rfl, he⟩ | ⟨rfl, he⟩
      · have c19 : Steps p.tables e below (s₁.setTop (entryFrame m #[.ref x, .ref y] 3)) (T18.setTop (mkF m 55 #[.val (.ref x), .val (.ref y), .val (.ref y)] [.int 1])) := Steps.trans g18 (by
          refine XS.ifNo X18.here hexec rfl (hb hbytes d47) rfl (i0_eq_f (by decide)) ?_
          refine iconstV X18.here hexec rfl 1 (hb hbytes d50) (by decide) ?_
          refine XS.goto X18.here hexec rfl (pc0 := 51) rfl (hb hbytes d51) (by decide) rfl ?_
          exact Steps.refl _)
        exact ⟨T18, some (.int 1), _, _, _, X18, rfl, rfl, rfl, (fun h => by cases h), ⟨1, rfl, q18.trans hh16, Or.inl ⟨rfl, iff.mp he⟩⟩, fun fs hl => c19.trans (X18.ireturnOut hexec hret rfl (Or.inr (Or.inl rfl)) (hb hbytes d55) hl)⟩
      · have c19 : Steps p.tables e below (s₁.setTop (entryFrame m #[.ref x, .ref y] 3)) (T18.setTop (mkF m 55 #[.val (.ref x), .val (.ref y), .val (.ref y)] [.int 0])) := Steps.trans g18 (by
          refine XS.ifYes X18.here hexec rfl (pc0 := 47) rfl (hb hbytes d47) rfl (i0_eq_t rfl) (by decide) rfl ?_
          refine iconstV X18.here hexec rfl 0 (hb hbytes d54) (by decide) ?_
          exact Steps.refl _)
        exact ⟨T18, some (.int 0), _, _, _, X18, rfl, rfl, rfl, (fun h => by cases h), ⟨0, rfl, q18.trans hh16, Or.inr ⟨rfl, fun q => he (iff.mpr q)⟩⟩, fun fs hl => c19.trans (X18.ireturnOut hexec hret rfl (Or.inr (Or.inl rfl)) (hb hbytes d55) hl)⟩
    · have c13 : Steps p.tables e below (s₁.setTop (entryFrame m #[.ref x, .ref y] 3)) (T11.setTop (mkF m 55 #[.val (.ref x), .val (.ref y), .val (.ref y)] [.int 0])) := c12.trans (by
        refine XS.icmpYes X11.here hexec rfl (pc0 := 33) rfl (hb hbytes d33) rfl (ii_ne_t hcd) (by decide) rfl ?_
        refine iconstV X11.here hexec rfl 0 (hb hbytes d54) (by decide) ?_
        exact Steps.refl _)
      exact ⟨T11, some (.int 0), _, _, _, X11, rfl, rfl, rfl, (fun h => by cases h), ⟨0, rfl, hh11, Or.inr ⟨rfl, Cod.dif hx.2.2.2.2.1 hy.2.2.2.2.1 hcd⟩⟩, fun fs hl => c13.trans (X11.ireturnOut hexec hret rfl (Or.inr (Or.inl rfl)) (hb hbytes d55) hl)⟩
theorem pays {l : Launch} {R : Room} {p : Program} {e : Env} {below : List Frame} {s : State} {sargs : Array Value} {len W : Nat} (x t : Addr) (V : Cell) (cd : Int32) (n : Nat) (f : Nat → Int32) (y t' : Addr) (V' : Cell) (cd' : Int32) (k : Nat) (g : Nat → Int32) (z : Int32) (htab : tab.before sargs s = true) (hfr : 2 ≤ R.frames) (hlo : W + 28 ≤ R.locals) :
    Back l R p e below s sargs yN len W (fun A₁ a₁ => A₁.cells + 0 ≤ R.cells ∧ A₁.slots + 0 ≤ R.slots ∧ P x t V cd n f y t' V' cd' k g z a₁ A₁.U) (fun A₁ _ v₁ B₁ => Says01 (SameT n f k g) v₁ A₁.U B₁.U ∧ B₁.locs = A₁.locs ++ [] ∧ B₁.cells = A₁.cells + 0 ∧ B₁.slots = A₁.slots + 0) :=
  (law l x t V cd n f y t' V' cd' k g z).pays htab hfr (by omega)
end SEq
end StrChars
namespace StrChars.Road
open Jvm Sem ClassFile Op Lib Jvm.Stand Jvm.Free Jvm.Free.XT
open Jvm.Lib.Cold (StaticIs)
/-- the words of String.equals(Object) -/
abbrev wordsEq : List Jvm.Cond := [.code SEq.yN SEq.yB 3 (some .boolean), .initialized ST, .classLink ST 10 ST, .fieldLink ST 38 ST "COMPACT_STRINGS" "Z", .fieldLink ST 15 ST "coder" "B", .fieldLink ST 9 ST "value" "[B", .methodLink ST 541 LEq.yN, .static LEq.yN, .code LEq.yN LEq.yB 3 (some .boolean), .initialized "java/lang/StringLatin1"]
theorem tabEq_of {a : Array Value} {s : State} (h : ∀ w ∈ wordsEq, w.before a s = true) : SEq.tab.before a s = true := by
  have hl : LEq.tab.before a s = true := unparts (wk h (.code LEq.yN LEq.yB 3 (some .boolean))) (wks h (.initialized LEq.yN.cls :: LEq.site))
  have q := consq hl h
  exact unparts (wk q (.code SEq.yN SEq.yB 3 (some .boolean))) (wks q (.initialized SEq.yN.cls :: SEq.site))
theorem movedEq {Z s : State} {a0 args : Array Value} (hZ : Z.Warmed39 s.vm) (hw : ∀ d ∈ wordsEq, d.before a0 Z = true) : ∀ d ∈ wordsEq, d.before args s = true := fun d hd => by
  have t : ∀ d ∈ wordsEq, (d.onTables && d.keepsFace) = true := by decide +kernel
  exact RoadKit.mv hZ (hw d hd) (t d hd)
/-- the road's facts of a String, as the laws ask it -/
theorem txt_of {Z U : State} {a0 : Array Value} {kI : Nat} (wi : (Jvm.Cond.instantiable ST kI).before a0 Z = true) (al : Z.vm.Alike U.vm) {x t : Addr} {kb : ClassId} {cs : List Int32} {cd N2 : Int32} {vs : List Value} (E : RoadKit.Exa Z U.heap x ST) (V : RoadKit.Fld Z U.heap x ST "value" "[B" (.ref t)) (C : RoadKit.Fld Z U.heap x ST "coder" "B" (.int cd)) (K : RoadKit.Arv Z U.heap t kb .byte N2 vs (.int 0)) (hc : CodA cs cd N2 vs) (hb : ∀ c ∈ cs, ¬ c < 0 ∧ ¬ (65535 : Int32) < c) (l2 : cs.length ≤ 4000) :
    ∃ A, Txt x t A cd cs.length (fun j => cs.getD j 0) U := by
  obtain ⟨A, K1, K2, K3, K4, K5, K6⟩ := K
  have hcod := hc.cod (by omega) K3 K5
  obtain ⟨D, fV, fC, hB, F1, F2, g1, g2, -, -⟩ := strObj wi al E V C
  exact ⟨A, ⟨_, hB.2.2.1, D, hB.1, rfl, by cases q : D.vm <;> first | rfl | exact absurd q (hB.2.1.2 _)⟩, Has.of hB F1 g1, Has.of hB F2 g2, ⟨K1.1, State.isArrayOf_alike al K1.2.1, K1.2.2, by rcases hcod with ⟨-, q, -⟩ | ⟨-, q, -⟩ <;> omega⟩, hcod, fun j hj => by
    have e : cs.getD j 0 = cs[j] := by simp [List.getD_eq_getElem?_getD, hj]
    show ¬ cs.getD j 0 < 0 ∧ ¬ 65535 < cs.getD j 0
    rw [e]; exact hb _ (List.getElem_mem _)⟩
theorem same_list (cs ds : List Int32) : SameT cs.length (fun j => cs.getD j 0) ds.length (fun j => ds.getD j 0) ↔ cs = ds := by
  constructor
  · rintro ⟨e, q⟩
    refine List.ext_getElem e fun j h1 h2 => ?_
    have := q j h1
    simpa [List.getD_eq_getElem?_getD, h1, h2] using this
  · rintro rfl
    exact ⟨rfl, fun _ _ => rfl⟩
/-- **equals(Object) OF TWO SUCH STRINGS**: 1 just where the chars are the same -/
theorem eqW {p : Program} {l : Launch} {e : Env} {R : Room} {s : State} {args : Array Value} {below : List Frame} {len W : Nat} {Z : State} {a0 : Array Value} {h : Heap} (hZ : Z.Warmed39 s.vm) (hw : ∀ d ∈ wordsEq, d.before a0 Z = true) {kI : Nat} (wi : (Jvm.Cond.instantiable ST kI).before a0 Z = true)
    {x t : Addr} {kb : ClassId} {cs : List Int32} {cd N2 : Int32} {vs : List Value} (E : RoadKit.Exa Z h x ST) (V : RoadKit.Fld Z h x ST "value" "[B" (.ref t)) (C : RoadKit.Fld Z h x ST "coder" "B" (.int cd)) (K : RoadKit.Arv Z h t kb .byte N2 vs (.int 0)) (hc : CodA cs cd N2 vs) (hb : ∀ c ∈ cs, ¬ c < 0 ∧ ¬ (65535 : Int32) < c) (l2 : cs.length ≤ 4000)
    {y t' : Addr} {kb' : ClassId} {ds : List Int32} {cd' N2' : Int32} {vs' : List Value} (E' : RoadKit.Exa Z h y ST) (V' : RoadKit.Fld Z h y ST "value" "[B" (.ref t')) (C' : RoadKit.Fld Z h y ST "coder" "B" (.int cd')) (K' : RoadKit.Arv Z h t' kb' .byte N2' vs' (.int 0)) (hc' : CodA ds cd' N2' vs') (hb' : ∀ c ∈ ds, ¬ c < 0 ∧ ¬ (65535 : Int32) < c) (l2' : ds.length ≤ 4000)
    {z : Int32} (S : RoadKit.Sta Z h ST "COMPACT_STRINGS" "Z" (.int z)) (hz : ¬ z = 0) (hfr : 2 ≤ R.frames) (hlo : W + 28 ≤ R.locals) :
    Back l R p e below s args (⟨"java/lang/String", "equals", "(Ljava/lang/Object;)Z"⟩ : MethodName) len W (fun P a => a = #[.ref x, .ref y] ∧ P.U.heap = h ∧ P.cells + 0 ≤ R.cells ∧ P.slots + 0 ≤ R.slots)
      (fun P _ v B => ∃ L, (((v = some (.int 1) ∧ cs = ds) ∨ (v = some (.int 0) ∧ ¬ cs = ds)) ∧ L = [] ∧ B.U.heap = h) ∧ B.locs = P.locs ++ L ∧ B.cells = P.cells + 0 ∧ B.slots = P.slots + 0) := by
  intro m meth c P g ig mk a X hg hsize hdg hW hn hp'
  obtain ⟨rfl, rfl, r1, r2⟩ := hp'
  have al : Z.vm.Alike P.U.vm := hZ.alike.trans X.warmed.alike
  obtain ⟨A, hx⟩ := txt_of wi al E V C K hc hb l2
  obtain ⟨A', hy⟩ := txt_of wi al E' V' C' K' hc' hb' l2'
  obtain ⟨v, B, X', ⟨⟨w, hv, hh, hq⟩, hl, hk, hs⟩, st⟩ := SEq.pays x t A cd cs.length (fun j => cs.getD j 0) y t' A' cd' ds.length (fun j => ds.getD j 0) z (tabEq_of (movedEq hZ hw)) hfr hlo m meth c P g ig mk _ X hg hsize hdg hW hn ⟨r1, r2, rfl, hx, hy, sta_is al S, hz⟩
  refine ⟨v, B, X', ⟨[], ⟨?_, rfl, hh⟩, hl, hk, hs⟩, st⟩
  rcases hq with ⟨rfl, q⟩ | ⟨rfl, q⟩
  · exact Or.inl ⟨hv, (same_list cs ds).mp q⟩
  · exact Or.inr ⟨hv, fun e => q ((same_list cs ds).mpr e)⟩
end StrChars.Road
namespace StrChars.Road
open Jvm Sem ClassFile Op Lib Jvm.Stand Jvm.Free Jvm.Free.XT
open Jvm.Lib.Cold (StaticIs)
/-- what backV says of its String, as the contracts of this text ask it: cs's low bytes, coder 0 -/
theorem codOf {cs : List Int32} {n : Nat} (hn : cs.length = n) (hb : ∀ c ∈ cs, ¬ 255 < c) : CodA cs 0 (Int32.ofNat n) ((cs.map lo8).map Value.int) := Or.inl ⟨rfl, by rw [hn], by simp [List.map_map, Function.comp_def], hb⟩
end StrChars.Road
end Jvm.Pilot.@@N@@
namespace Jvm.Pilot.@@N@@
open Jvm Jvm.ClassFile Sem Op Lib Jvm.Free Jvm.Stand Jvm.LawKit Jvm.RoadKit Bundle Jvm.Pilot.@@N@@.Jvm.D
/-- a run from here that ends well -/
def own_G (p : Program) (e : Env) (below : List Frame) (P : Outcome → State → Prop) (S : State) : Prop := ∃ s₂ o, Steps p.tables e below S s₂ ∧ s₂.status = .running ∧ Ended s₂ below o ∧ P o s₂
theorem own_go {p : Program} {e : Env} {below : List Frame} {P : Outcome → State → Prop} {S : State} (S' : State) (k : ∀ t, Steps p.tables e below S' t → Steps p.tables e below S t) (h : own_G p e below P S') : own_G p e below P S := by
  obtain ⟨s₂, o, h1, h2⟩ := h
  exact ⟨s₂, o, k _ h1, h2⟩
theorem own_st1 {l : Array Slot} {i : Nat} {x : Slot} {v : Value} (hx : l[i]? = some x) (hv : v.category = 1) (h : One x) : storeLocals l i v = some (l.setIfInBounds i (.val v)) := by
  rcases h with rfl | ⟨w, rfl, hw⟩
  · exact storeLocals_cat1 hx hv trivial
  · exact storeLocals_cat1 hx hv hw
theorem own_selp {s : State} {args : Array Value} {D : String} {y z : MethodName} (h : (Cond.selects D z z).before args s = true) (hc : z.cls = y.cls) (hpriv : s.PrivateAt y) (hinst : (Cond.instanceMethod y).before args s = true) (hy : y.cls ≠ "java/lang/invoke/MethodHandle" ∧ y.cls ≠ "java/lang/invoke/VarHandle") : (Cond.selects y.cls y y).before args s = true := by
  obtain ⟨c, r, m, q1, q2, q3, q4, mk, hk, hi⟩ := Cond.selects_spec h
  exact selects_self_of_private (hc ▸ findClass_of_methodNamed q3) hk hi hpriv hinst hy
theorem own_sameM {s : State} {args : Array Value} {D : String} {y z : MethodName} (hinst : (Cond.instanceMethod y).before args s = true) (hsel : (Cond.selects D z z).before args s = true) (hc : z.cls = y.cls) (hy : y.cls ≠ "java/lang/invoke/MethodHandle" ∧ y.cls ≠ "java/lang/invoke/VarHandle") : (Cond.sameMethod y.cls y.cls y.name y.desc).before args s = true := by
  obtain ⟨mk, methM, hnamed, hmethM, -, -⟩ := Cond.instanceMethod_spec hinst
  obtain ⟨c, r, m, q1, q2, q3, q4, k, hk, hi⟩ := Cond.selects_spec hsel
  have hfound := State.methodFound?_of_named hnamed hy
  have hcn := findClass_of_methodNamed hnamed
  have e : m.cls = mk.cls := Option.some.inj ((findClass_of_methodNamed q3).symm.trans (hc ▸ hcn))
  rw [e] at hk
  obtain ⟨yc, yn, yd⟩ := y
  simp_all [Cond.before, Cond.holds, Cond.value]
theorem own_nf {s : State} {args : Array Value} {D : String} {y z : MethodName} (hsel : (Cond.selects D z z).before args s = true) (hc : z.cls = y.cls) : NotFace s y := fun r0 h0 => by
  obtain ⟨c, r, m, q1, q2, q3, q4, k, hk, hi⟩ := Cond.selects_spec hsel
  have e : m.cls = r0.cls := Option.some.inj ((findClass_of_methodNamed q3).symm.trans (hc ▸ findClass_of_methodNamed h0))
  exact ⟨k, e ▸ hk, hi⟩
theorem own_lt {x y : Int64} : lcmpW x y < 0 ↔ x < y := by rw [lcW]; exact lc_lt x y
theorem own_gt {x y : Int64} : (0 : Int32) < lcmpW x y ↔ y < x := by rw [lcW]; exact lc_gt x y
theorem own_eq {x y : Int64} : lcmpW x y = 0 ↔ x = y := by rw [lcW]; exact lc_eq x y
theorem own_extK {Z : State} {h h' : Heap} {ws : List Addr} (O : Ext Z.heap h) (K : Keep h h' ws) (q : ∀ x ∈ ws, Z.heap.size ≤ x) : Ext Z.heap h' :=
  (Old.keep (n0 := Z.heap.size) ⟨rfl, O⟩ K q).2
theorem own_ext {h h1 h2 : Heap} (E : Ext h h1) (F : Ext h1 h2) : Ext h h2 := ⟨Nat.le_trans E.1 F.1, fun a c q => F.2 a c (E.2 a c q)⟩
theorem own_extW {Z : State} {h h' : Heap} {a : Addr} {sl : Nat} {v : Value} (O : Ext Z.heap h) (W : Wr h h' a sl v) (q : Z.heap.size ≤ a) : Ext Z.heap h' := own_extK O (Keep.of_wr W) (allS q all0)
theorem own_fldI {s : State} {args : Array Value} {t : Term} {C n d : String} {k : Int32} {a : Addr} (h : (Cond.eq (Term.field t C n d) (Term.int k)).value args s none s [] = some true) (ev : t.eval args s none [] s = some (.ref a)) : Fld s s.heap a C n d (.int k) := by
  obtain ⟨x, y, h1, h2, h3, -⟩ := cmp_v (Or.inl h)
  have h4 : s.fieldOf? a C n d = some x := (fld_at ev).symm.trans h1
  have h5 : y = .int k := (Option.some.inj (h2.symm.trans (Term.int_eval k)))
  subst h5
  cases x with
  | int z =>
    simp only [Cond.value, h1, h2] at h
    have e : z = k := by simpa using h
    subst e
    exact Fld.start h4
  | _ => simp [Kin, Value.isRef] at h3
theorem own_fldV {s : State} {args : Array Value} {t u : Term} {C n d : String} {b : Addr} {a : Addr} (h : (Cond.eq (Term.field t C n d) u).value args s none s [] = some true) (ev : t.eval args s none [] s = some (.ref a)) (eu : u.eval args s none [] s = some (.ref b)) : Fld s s.heap a C n d (.ref b) := by
  obtain ⟨x, y, h1, h2, h3, -⟩ := cmp_v (Or.inl h)
  have h4 : s.fieldOf? a C n d = some x := (fld_at ev).symm.trans h1
  have h5 : y = .ref b := (Option.some.inj (h2.symm.trans eu))
  subst h5
  cases x with
  | ref z =>
    simp only [Cond.value, h1, h2] at h
    have e : z = b := by simpa using h
    subst e
    exact Fld.start h4
  | null => simp [Cond.value, h1, h2] at h
  | _ => simp [Kin, Value.isRef] at h3
theorem own_elemI {s : State} {args : Array Value} {t : Term} {j k : Int32} {a : Addr} {cl : Cell} (h : (Cond.eq (Term.elem t (Term.int j)) (Term.int k)).value args s none s [] = some true) (ev : t.eval args s none [] s = some (.ref a)) (hc : s.heap[a]? = some cl) : ¬ (j < 0 ∨ cl.slots.size ≤ j.toNatClampNeg) ∧ cl.slots[j.toNatClampNeg]? = some (.int k) := by
  obtain ⟨x, y, h1, h2, h3, -⟩ := cmp_v (Or.inl h)
  have h4 := elem_in h1 ev (Term.int_eval j) hc
  have h5 : y = .int k := (Option.some.inj (h2.symm.trans (Term.int_eval k)))
  subst h5
  cases x with
  | int z =>
    simp only [Cond.value, h1, h2] at h
    have e : z = k := by simpa using h
    subst e
    exact h4
  | _ => simp [Kin, Value.isRef] at h3
theorem own_elemV {s : State} {args : Array Value} {t u : Term} {j : Int32} {a b : Addr} {cl : Cell} (h : (Cond.eq (Term.elem t (Term.int j)) u).value args s none s [] = some true) (ev : t.eval args s none [] s = some (.ref a)) (eu : u.eval args s none [] s = some (.ref b)) (hc : s.heap[a]? = some cl) : ¬ (j < 0 ∨ cl.slots.size ≤ j.toNatClampNeg) ∧ cl.slots[j.toNatClampNeg]? = some (.ref b) := by
  obtain ⟨x, y, h1, h2, h3, -⟩ := cmp_v (Or.inl h)
  have h4 := elem_in h1 ev (Term.int_eval j) hc
  have h5 : y = .ref b := (Option.some.inj (h2.symm.trans eu))
  subst h5
  cases x with
  | ref z =>
    simp only [Cond.value, h1, h2] at h
    have e : z = b := by simpa using h
    subst e
    exact h4
  | null => simp [Cond.value, h1, h2] at h
  | _ => simp [Kin, Value.isRef] at h3
theorem own_fldN {s : State} {args : Array Value} {t : Term} {C n d : String} {a : Addr} (h : (Cond.eq (Term.field t C n d) Term.null).value args s none s [] = some true) (ev : t.eval args s none [] s = some (.ref a)) : Fld s s.heap a C n d .null :=
  Fld.start ((fld_at ev).symm.trans (null_v h))
def own_W (Z : State) (a_OUT : Addr) (a__VALUES : Addr) (a_INP : Addr) (a_TAKE_COMPLETE : Addr) (a_OUT_text : Addr) (a_INP_text : Addr) (a_TAKE_COMPLETE_text : Addr) (a_OUT_text_value : Addr) (a_INP_text_value : Addr) (a_TAKE_COMPLETE_text_value : Addr) (a_EM : Addr) (k__VALUES : ClassId) (k_OUT_text_value : ClassId) (k_INP_text_value : ClassId) (k_TAKE_COMPLETE_text_value : ClassId) (cs0 : Int32) : Prop := (Sta Z Z.heap "com/example/tuplebag/tuplebag/bench/Workload" "OUT" "Lcom/example/tuplebag/tuplebag/bench/Workload;" (.ref a_OUT)) ∧ (Exa Z Z.heap a_OUT "com/example/tuplebag/tuplebag/bench/Workload") ∧ (Sta Z Z.heap "com/example/tuplebag/tuplebag/bench/Workload" "$VALUES" "[Lcom/example/tuplebag/tuplebag/bench/Workload;" (.ref a__VALUES)) ∧ (Exa Z Z.heap a__VALUES "[Lcom/example/tuplebag/tuplebag/bench/Workload;") ∧ (Sta Z Z.heap "com/example/tuplebag/tuplebag/bench/Workload" "INP" "Lcom/example/tuplebag/tuplebag/bench/Workload;" (.ref a_INP)) ∧ (Exa Z Z.heap a_INP "com/example/tuplebag/tuplebag/bench/Workload") ∧ (Sta Z Z.heap "com/example/tuplebag/tuplebag/bench/Workload" "TAKE_COMPLETE" "Lcom/example/tuplebag/tuplebag/bench/Workload;" (.ref a_TAKE_COMPLETE)) ∧ (Exa Z Z.heap a_TAKE_COMPLETE "com/example/tuplebag/tuplebag/bench/Workload") ∧ (Fld Z Z.heap a_OUT "com/example/tuplebag/tuplebag/bench/Workload" "text" "Ljava/lang/String;" (.ref a_OUT_text)) ∧ (Exa Z Z.heap a_OUT_text "java/lang/String") ∧ (Fld Z Z.heap a_INP "com/example/tuplebag/tuplebag/bench/Workload" "text" "Ljava/lang/String;" (.ref a_INP_text)) ∧ (Exa Z Z.heap a_INP_text "java/lang/String") ∧ (Fld Z Z.heap a_TAKE_COMPLETE "com/example/tuplebag/tuplebag/bench/Workload" "text" "Ljava/lang/String;" (.ref a_TAKE_COMPLETE_text)) ∧ (Exa Z Z.heap a_TAKE_COMPLETE_text "java/lang/String") ∧ (Fld Z Z.heap a_OUT_text "java/lang/String" "value" "[B" (.ref a_OUT_text_value)) ∧ (Fld Z Z.heap a_INP_text "java/lang/String" "value" "[B" (.ref a_INP_text_value)) ∧ (Fld Z Z.heap a_TAKE_COMPLETE_text "java/lang/String" "value" "[B" (.ref a_TAKE_COMPLETE_text_value)) ∧ (Fld Z Z.heap a_OUT_text "java/lang/String" "coder" "B" (.int (0 : Int32))) ∧ (Fld Z Z.heap a_INP_text "java/lang/String" "coder" "B" (.int (0 : Int32))) ∧ (Fld Z Z.heap a_TAKE_COMPLETE_text "java/lang/String" "coder" "B" (.int (0 : Int32))) ∧ (Arv Z Z.heap a__VALUES k__VALUES (.object "com/example/tuplebag/tuplebag/bench/Workload") 3 [(.ref a_OUT), (.ref a_INP), (.ref a_TAKE_COMPLETE)] .null) ∧ (Arv Z Z.heap a_OUT_text_value k_OUT_text_value .byte 3 [(.int (111 : Int32)), (.int (117 : Int32)), (.int (116 : Int32))] (.int (0 : Int32))) ∧ (Arv Z Z.heap a_INP_text_value k_INP_text_value .byte 3 [(.int (105 : Int32)), (.int (110 : Int32)), (.int (112 : Int32))] (.int (0 : Int32))) ∧ (Arv Z Z.heap a_TAKE_COMPLETE_text_value k_TAKE_COMPLETE_text_value .byte 13 [(.int (116 : Int32)), (.int (97 : Int32)), (.int (107 : Int32)), (.int (101 : Int32)), (.int (45 : Int32)), (.int (99 : Int32)), (.int (111 : Int32)), (.int (109 : Int32)), (.int (112 : Int32)), (.int (108 : Int32)), (.int (101 : Int32)), (.int (116 : Int32)), (.int (101 : Int32))] (.int (0 : Int32))) ∧ (Sta Z Z.heap "java/lang/String" "COMPACT_STRINGS" "Z" (.int cs0)) ∧ (¬ cs0 = (0 : Int32)) ∧ (Sta Z Z.heap "java/util/Optional" "EMPTY" "Ljava/util/Optional;" (.ref a_EM)) ∧ (Exa Z Z.heap a_EM "java/util/Optional") ∧ (Fld Z Z.heap a_EM "java/util/Optional" "value" "Ljava/lang/Object;" .null)
theorem own_case {i : Int32} {k : Int} (c : Int32) (h : i.toInt = k) (hc : c.toInt = k) : i = c := Int32.toInt_inj.mp (h.trans hc.symm)
theorem own_mask (x : Int32) : 0 ≤ (x &&& 2147483647).toInt := by
  have e := Jvm.Kit.i32_mask x 2147483647 (k := 31) (by decide) (by decide)
  omega
theorem own_mod (x n : Int32) (hn : 0 < n.toInt) : 0 ≤ ((x &&& 2147483647) % n).toInt ∧ ((x &&& 2147483647) % n).toInt < n.toInt := by
  rw [Jvm.Kit.i32_rem_nonneg (own_mask x)]
  exact ⟨Int.emod_nonneg _ (by omega), Int.emod_lt_of_pos _ hn⟩
theorem own_and3 (x : Int32) : (x &&& 3) = 0 ∨ (x &&& 3) = 1 ∨ (x &&& 3) = 2 ∨ (x &&& 3) = 3 := by
  have e := Jvm.Kit.i32_mask x 3 (k := 2) (by decide) (by decide)
  rcases (by omega : (x &&& 3).toInt = 0 ∨ (x &&& 3).toInt = 1 ∨ (x &&& 3).toInt = 2 ∨ (x &&& 3).toInt = 3) with q | q | q | q
  · exact Or.inl (own_case 0 q (by decide))
  · exact Or.inr (Or.inl (own_case 1 q (by decide)))
  · exact Or.inr (Or.inr (Or.inl (own_case 2 q (by decide))))
  · exact Or.inr (Or.inr (Or.inr (own_case 3 q (by decide))))
theorem own_words : ∀ d ∈ StrChars.Road.words, d ∈ tables_1 := by decide +kernel
theorem own_wordsEq : ∀ d ∈ StrChars.Road.wordsEq, d ∈ tables_1 := by decide +kernel
theorem own_i2c (x : Int32) : nar .char ((x &&& (255 : Int32)).toUInt32.toUInt16.toUInt32.toInt32) = x &&& 255 := by
  rw [i2c_mask]
  exact i2c_mask x
theorem own_byte (x : Int32) : ¬ (x &&& 255) < 0 ∧ ¬ (255 : Int32) < (x &&& 255) := by
  have e := Jvm.Kit.i32_mask x 255 (k := 8) (by decide) (by decide)
  have e0 : (0 : Int32).toInt = 0 := by decide
  have e1 : (255 : Int32).toInt = 255 := by decide
  constructor <;> (intro q; rw [Int32.lt_iff_toInt_lt] at q; omega)
theorem own_c255 (x : Int32) : ¬ nar .char ((x &&& (255 : Int32)).toUInt32.toUInt16.toUInt32.toInt32) < 0 ∧ ¬ (255 : Int32) < nar .char ((x &&& (255 : Int32)).toUInt32.toUInt16.toUInt32.toInt32) := by
  rw [own_i2c]
  exact own_byte x
theorem own_all0 {P : Int32 → Prop} : ∀ c ∈ ([] : List Int32), P c := fun _ q => nomatch q
theorem own_allS {P : Int32 → Prop} {y : Int32} {L : List Int32} (q : P y) (r : ∀ c ∈ L, P c) : ∀ c ∈ y :: L, P c := fun c z => (List.mem_cons.mp z).elim (fun u => u ▸ q) (r c)
theorem own_snew {Z : State} {EL : List (String × Nat)} {vm : Vm} {h : Heap} {x : Addr} (R : CHv Z EL vm h) (hx : h.size ≤ x) : Safe Z EL vm h x := Safe.new hx
theorem own_sA : ∀ d ∈ Bundle.stringAtoms, d ∈ tables_1 := by decide +kernel
theorem own_EW {Z : State} {a0 : Array Value} (hw : ∀ d ∈ tables_1, d.before a0 Z = true) : EW Z a0 consts_1 := (EW.cons (hw _ (List.mem_of_getElem? (i := 1) rfl)) (by decide) (EW.cons (hw _ (List.mem_of_getElem? (i := 101) rfl)) (by decide) (EW.cons (hw _ (List.mem_of_getElem? (i := 102) rfl)) (by decide) (EW.cons (hw _ (List.mem_of_getElem? (i := 108) rfl)) (by decide) EW.nil))))
theorem own_up (cs : List Int32) (h : ∀ c ∈ cs, ¬ c < 0 ∧ ¬ (255 : Int32) < c) : ∀ c ∈ cs, ¬ c < 0 ∧ ¬ (65535 : Int32) < c := fun c hc => ⟨(h c hc).1, fun q => (h c hc).2 (by
  rw [Int32.lt_iff_toInt_lt] at q ⊢
  have e1 : (65535 : Int32).toInt = 65535 := by decide
  have e2 : (255 : Int32).toInt = 255 := by decide
  omega)⟩
theorem own_set (cs : List Int32) (h : ∀ c ∈ cs, ¬ c < 0 ∧ ¬ (255 : Int32) < c) (i : Nat) (x : Int32) (hx : ¬ x < 0 ∧ ¬ (255 : Int32) < x) : ∀ c ∈ cs.set i x, ¬ c < 0 ∧ ¬ (255 : Int32) < c := fun c hc => (List.mem_or_eq_of_mem_set hc).elim (h c) fun e => e ▸ hx
theorem own_cod (cs : List Int32) (hp : ∀ c ∈ cs, ¬ c < 0 ∧ ¬ (255 : Int32) < c) : StrChars.Road.CodA cs 0 (Int32.ofNat cs.length) ((cs.map (fun c => c.toInt8.toInt32)).map Value.int) := StrChars.Road.codOf rfl (fun c hc => (hp c hc).2)
theorem own_hp_OUT : ∀ c ∈ ([111, 117, 116] : List Int32), ¬ c < 0 ∧ ¬ (255 : Int32) < c := by decide +kernel
theorem own_hp_INP : ∀ c ∈ ([105, 110, 112] : List Int32), ¬ c < 0 ∧ ¬ (255 : Int32) < c := by decide +kernel
theorem own_hp_TAKE_COMPLETE : ∀ c ∈ ([116, 97, 107, 101, 45, 99, 111, 109, 112, 108, 101, 116, 101] : List Int32), ¬ c < 0 ∧ ¬ (255 : Int32) < c := by decide +kernel
theorem own_pn0 : plainName "com/example/tuplebag/tuplebag/bench/Workload" = true := by first | (simp [plainName, overriddenIn]; done) | decide +kernel
theorem own_ef_va (m : MethodId)  : entryFrame m #[] 0 = mkF m 0 #[] [] := by first | (simp [entryFrame, mkF, argsToLocals, Value.category]; done) | rfl
theorem own_d_prog_9_method_1_0 : decode prog_9_method_1_code 0 = .ok (.getstatic 13, 3) := by decide +kernel
theorem own_d_prog_9_method_1_3 : decode prog_9_method_1_code 3 = .ok (.invokevirtual 17, 3) := by decide +kernel
theorem own_d_prog_9_method_1_6 : decode prog_9_method_1_code 6 = .ok (.checkcast 18, 3) := by decide +kernel
theorem own_d_prog_9_method_1_9 : decode prog_9_method_1_code 9 = .ok (.areturn, 1) := by decide +kernel
def Q_va (Z : State) (a_OUT : Addr) (a__VALUES : Addr) (a_INP : Addr) (a_TAKE_COMPLETE : Addr) (a_OUT_text : Addr) (a_INP_text : Addr) (a_TAKE_COMPLETE_text : Addr) (a_OUT_text_value : Addr) (a_INP_text_value : Addr) (a_TAKE_COMPLETE_text_value : Addr) (a_EM : Addr) (k__VALUES : ClassId) (k_OUT_text_value : ClassId) (k_INP_text_value : ClassId) (k_TAKE_COMPLETE_text_value : ClassId) (cs0 : Int32) (h0 : Heap) (v_ : Option Value) (h : Heap) (L_ : List Loc) : Prop := ∃ (r : Addr), v_ = some (.ref r) ∧ Fr Z.heap.size L_ ∧ (Keep h0 h [] ∧ Arv Z h r k__VALUES (.object "com/example/tuplebag/tuplebag/bench/Workload") 3 [(.ref a_OUT), (.ref a_INP), (.ref a_TAKE_COMPLETE)] .null)
set_option maxRecDepth 65536 in
set_option maxHeartbeats 40000000 in
theorem rm_va (l : Launch) (Z : State) (a0 : Array Value) (hw : ∀ d ∈ tables_1, d.before a0 Z = true) (ws : List Jvm.Cond) (a_OUT : Addr) (a__VALUES : Addr) (a_INP : Addr) (a_TAKE_COMPLETE : Addr) (a_OUT_text : Addr) (a_INP_text : Addr) (a_TAKE_COMPLETE_text : Addr) (a_OUT_text_value : Addr) (a_INP_text_value : Addr) (a_TAKE_COMPLETE_text_value : Addr) (a_EM : Addr) (k__VALUES : ClassId) (k_OUT_text_value : ClassId) (k_INP_text_value : ClassId) (k_TAKE_COMPLETE_text_value : ClassId) (cs0 : Int32) (h0 : Heap) (O : Ext Z.heap h0) (w : own_W Z a_OUT a__VALUES a_INP a_TAKE_COMPLETE a_OUT_text a_INP_text a_TAKE_COMPLETE_text a_OUT_text_value a_INP_text_value a_TAKE_COMPLETE_text_value a_EM k__VALUES k_OUT_text_value k_INP_text_value k_TAKE_COMPLETE_text_value cs0) :
    MetFree l (⟨"com/example/tuplebag/tuplebag/bench/Workload", "values", "()[Lcom/example/tuplebag/tuplebag/bench/Workload;"⟩ : MethodName) (head1 (Jvm.Cond.code (⟨"com/example/tuplebag/tuplebag/bench/Workload", "values", "()[Lcom/example/tuplebag/tuplebag/bench/Workload;"⟩ : MethodName) prog_9_method_1_code 0 (some (.array (.object "com/example/tuplebag/tuplebag/bench/Workload"))) :: ws) ({ frames := 1, cells := 1, slots := 3, locals := 14 } : Room)) (fun a_ U_ => a_ = #[] ∧ Z.Warmed39 U_.vm ∧ U_.heap = h0) (fun _ _ _ _ _ => True) (fun _ U_ o_ U2_ => ∃ v_ L_, o_ = .returned v_ ∧ Q_va Z a_OUT a__VALUES a_INP a_TAKE_COMPLETE a_OUT_text a_INP_text a_TAKE_COMPLETE_text a_OUT_text_value a_INP_text_value a_TAKE_COMPLETE_text_value a_EM k__VALUES k_OUT_text_value k_INP_text_value k_TAKE_COMPLETE_text_value cs0 h0 v_ U2_.heap L_ ∧ FrameEnd U_ o_ U2_ L_ ({ frames := 1, cells := 1, slots := 3, locals := 14 } : Room).cells ({ frames := 1, cells := 1, slots := 3, locals := 14 } : Room).slots) := by
  refine MetFree.of_bodySF (plainFor_of_name own_pn0) hisR ?_
  intro p e s m args below meth c s₁ Bd hml0 hP hK
  obtain ⟨rfl, hZ, hh⟩ := hP
  have hx := Bd.exec
  have hby := Bd.bytes
  have hml : c.maxLocals = 0 := hml0
  have hown : s.vm.findClass "com/example/tuplebag/tuplebag/bench/Workload" = some m.cls := findClass_of_methodNamed Bd.named
  have hnm := (name_of_methodNamed Bd.named Bd.method).1
  have X0 : Stand p l e ({ frames := 1, cells := 1, slots := 3, locals := 14 } : Room) s m #[] below meth c s₁ [] 0 0 := Stand.of_body Bd
  have e0 : s₁.heap = h0 := by rw [← hh, Bd.state]; rfl
  have N0 := Fr.nil Z.heap.size
  show own_G p e below (fun o_ s₂ => ∃ v_ L_, o_ = .returned v_ ∧ Q_va Z a_OUT a__VALUES a_INP a_TAKE_COMPLETE a_OUT_text a_INP_text a_TAKE_COMPLETE_text a_OUT_text_value a_INP_text_value a_TAKE_COMPLETE_text_value a_EM k__VALUES k_OUT_text_value k_INP_text_value k_TAKE_COMPLETE_text_value cs0 h0 v_ s₂.heap L_ ∧ FrameEnd s o_ s₂ L_ ({ frames := 1, cells := 1, slots := 3, locals := 14 } : Room).cells ({ frames := 1, cells := 1, slots := 3, locals := 14 } : Room).slots) (s₁.setTop (entryFrame m #[] 0))
  refine own_go (s₁.setTop (mkF m 0 #[] [])) (fun t_ k_ => castTop (own_ef_va m ) k_) ?_
  have w' := w
  obtain ⟨S_OUT, X_OUT, S__VALUES, X__VALUES, S_INP, X_INP, S_TAKE_COMPLETE, X_TAKE_COMPLETE, F_OUT_text, X_OUT_text, F_INP_text, X_INP_text, F_TAKE_COMPLETE_text, X_TAKE_COMPLETE_text, F_OUT_text_value, F_INP_text_value, F_TAKE_COMPLETE_text_value, F_OUT_text_coder, F_INP_text_coder, F_TAKE_COMPLETE_text_coder, V__VALUES, V_OUT_text_value, V_INP_text_value, V_TAKE_COMPLETE_text_value, S_CS, n_CS, S_EM, X_EM, F_EM⟩ := w'
  obtain ⟨T1, X1, e1, st1⟩ := getS2 X0 hx hZ hown (host := "") (Or.inl (hw _ (List.mem_of_getElem? (i := 28) rfl))) Via.refl e0 (S__VALUES.ext O) (g := (mkF m 0 #[] [])) rfl (hb hby own_d_prog_9_method_1_0)
  refine own_go (T1.setTop (mkF m 3 #[] [(.ref a__VALUES)])) (fun t_ k_ => st1 _ k_) ?_
  obtain ⟨T2, h2, X2, e2, E2, A2, Xa2, st2⟩ := cloneH X1 hx hZ hown (hw _ (List.mem_of_getElem? (i := 30) rfl)) (hw _ (List.mem_of_getElem? (i := 31) rfl)) (hw _ (List.mem_of_getElem? (i := 35) rfl)) (hw _ (List.mem_of_getElem? (i := 33) rfl)) (hw _ (List.mem_of_getElem? (i := 34) rfl)) (hw _ (List.mem_of_getElem? (i := 36) rfl)) e1 (Arv.arh (V__VALUES.ext O)) (X__VALUES.ext O) (g := (mkF m 3 #[] [(.ref a__VALUES)])) rfl (by rw [hml]; rfl) rfl (hb hby own_d_prog_9_method_1_3) (by decide) (W := 0) (cap := 3) (by show 2 * 0 + _ ≤ _; exact Nat.le_of_eq rfl) (by decide) (by decide) (by decide) (by decide)
  obtain ⟨b2, g2⟩ : ∃ z, z = h0.size := ⟨_, rfl⟩
  rw [← g2] at A2 Xa2 st2
  have ge_b2 : Z.heap.size ≤ b2 := Nat.le_trans O.1 (Nat.le_of_eq g2.symm)
  have sz_b2 : h0.size ≤ b2 := Nat.le_trans (Keep.refl h0 []).1 (Nat.le_of_eq g2.symm)
  have K2 : Keep h0 h2 [] := (Keep.refl h0 []).ext E2
  have O2 := own_ext O E2
  have V2 : Arv Z h2 b2 k__VALUES (.object "com/example/tuplebag/tuplebag/bench/Workload") (3 : Int32) [(.ref a_OUT), (.ref a_INP), (.ref a_TAKE_COMPLETE)] .null := A2
  refine own_go (T2.setTop (mkF m 6 #[] [(.ref b2)])) (fun t_ k_ => st2 _ k_) ?_
  obtain ⟨T3, X3, e3, st3⟩ := castY X2 hx hZ hown (hw _ (List.mem_of_getElem? (i := 40) rfl)) e2 (Ins.self Xa2) (g := (mkF m 6 #[] [(.ref b2)])) rfl rfl (hb hby own_d_prog_9_method_1_6)
  refine own_go (T3.setTop (mkF m 9 #[] [(.ref b2)])) (fun t_ k_ => st3 _ k_) ?_
  obtain ⟨fs, hr, hrun, hended, hW, hsame⟩ := X3.leave (v := some (.ref b2)) (fun h => by rw [Bd.returns] at h; cases h)
  refine ⟨_, _, Jvm.RoadKit.retOut X3 hx Bd.returns rfl (Or.inr (Or.inr (Or.inr (Or.inr ⟨rfl, rfl, rfl⟩)))) (hb hby own_d_prog_9_method_1_9) hr, hrun, hended, _, _, rfl, ?_, ⟨_, rfl⟩, hW, hsame.mono (by decide) (by decide)⟩
  show Q_va Z a_OUT a__VALUES a_INP a_TAKE_COMPLETE a_OUT_text a_INP_text a_TAKE_COMPLETE_text a_OUT_text_value a_INP_text_value a_TAKE_COMPLETE_text_value a_EM k__VALUES k_OUT_text_value k_INP_text_value k_TAKE_COMPLETE_text_value cs0 h0 _ T3.heap _
  rw [show T3.heap = h2 from e3]
  exact ⟨_, rfl, N0, K2, V2⟩
theorem own_pn1 : plainName "java/util/Optional" = true := by first | (simp [plainName, overriddenIn]; done) | decide +kernel
theorem own_ef_em (m : MethodId)  : entryFrame m #[] 1 = mkF m 0 #[.unset] [] := by first | (simp [entryFrame, mkF, argsToLocals, Value.category]; done) | rfl
theorem own_d_jdk_32_method_1_0 : decode jdk_32_method_1_code 0 = .ok (.getstatic 1, 3) := by decide +kernel
theorem own_d_jdk_32_method_1_3 : decode jdk_32_method_1_code 3 = .ok (.astore_n 0, 1) := by decide +kernel
theorem own_d_jdk_32_method_1_4 : decode jdk_32_method_1_code 4 = .ok (.aload_n 0, 1) := by decide +kernel
theorem own_d_jdk_32_method_1_5 : decode jdk_32_method_1_code 5 = .ok (.areturn, 1) := by decide +kernel
def Q_em (Z : State) (a_OUT : Addr) (a__VALUES : Addr) (a_INP : Addr) (a_TAKE_COMPLETE : Addr) (a_OUT_text : Addr) (a_INP_text : Addr) (a_TAKE_COMPLETE_text : Addr) (a_OUT_text_value : Addr) (a_INP_text_value : Addr) (a_TAKE_COMPLETE_text_value : Addr) (a_EM : Addr) (k__VALUES : ClassId) (k_OUT_text_value : ClassId) (k_INP_text_value : ClassId) (k_TAKE_COMPLETE_text_value : ClassId) (cs0 : Int32) (h0 : Heap) (v_ : Option Value) (h : Heap) (L_ : List Loc) : Prop := v_ = some (.ref a_EM) ∧ Fr Z.heap.size L_ ∧ (h = h0)
set_option maxRecDepth 65536 in
set_option maxHeartbeats 40000000 in
theorem rm_em (l : Launch) (Z : State) (a0 : Array Value) (hw : ∀ d ∈ tables_1, d.before a0 Z = true) (ws : List Jvm.Cond) (a_OUT : Addr) (a__VALUES : Addr) (a_INP : Addr) (a_TAKE_COMPLETE : Addr) (a_OUT_text : Addr) (a_INP_text : Addr) (a_TAKE_COMPLETE_text : Addr) (a_OUT_text_value : Addr) (a_INP_text_value : Addr) (a_TAKE_COMPLETE_text_value : Addr) (a_EM : Addr) (k__VALUES : ClassId) (k_OUT_text_value : ClassId) (k_INP_text_value : ClassId) (k_TAKE_COMPLETE_text_value : ClassId) (cs0 : Int32) (h0 : Heap) (O : Ext Z.heap h0) (w : own_W Z a_OUT a__VALUES a_INP a_TAKE_COMPLETE a_OUT_text a_INP_text a_TAKE_COMPLETE_text a_OUT_text_value a_INP_text_value a_TAKE_COMPLETE_text_value a_EM k__VALUES k_OUT_text_value k_INP_text_value k_TAKE_COMPLETE_text_value cs0) :
    MetFree l (⟨"java/util/Optional", "empty", "()Ljava/util/Optional;"⟩ : MethodName) (head1 (Jvm.Cond.code (⟨"java/util/Optional", "empty", "()Ljava/util/Optional;"⟩ : MethodName) jdk_32_method_1_code 1 (some (.object "java/util/Optional")) :: ws) ({ frames := 0, cells := 0, slots := 0, locals := 0 } : Room)) (fun a_ U_ => a_ = #[] ∧ Z.Warmed39 U_.vm ∧ U_.heap = h0) (fun _ _ _ _ _ => True) (fun _ U_ o_ U2_ => ∃ v_ L_, o_ = .returned v_ ∧ Q_em Z a_OUT a__VALUES a_INP a_TAKE_COMPLETE a_OUT_text a_INP_text a_TAKE_COMPLETE_text a_OUT_text_value a_INP_text_value a_TAKE_COMPLETE_text_value a_EM k__VALUES k_OUT_text_value k_INP_text_value k_TAKE_COMPLETE_text_value cs0 h0 v_ U2_.heap L_ ∧ FrameEnd U_ o_ U2_ L_ ({ frames := 0, cells := 0, slots := 0, locals := 0 } : Room).cells ({ frames := 0, cells := 0, slots := 0, locals := 0 } : Room).slots) := by
  refine MetFree.of_bodySF (plainFor_of_name own_pn1) hisR ?_
  intro p e s m args below meth c s₁ Bd hml0 hP hK
  obtain ⟨rfl, hZ, hh⟩ := hP
  have hx := Bd.exec
  have hby := Bd.bytes
  have hml : c.maxLocals = 1 := hml0
  have hown : s.vm.findClass "java/util/Optional" = some m.cls := findClass_of_methodNamed Bd.named
  have hnm := (name_of_methodNamed Bd.named Bd.method).1
  have X0 : Stand p l e ({ frames := 0, cells := 0, slots := 0, locals := 0 } : Room) s m #[] below meth c s₁ [] 0 0 := Stand.of_body Bd
  have e0 : s₁.heap = h0 := by rw [← hh, Bd.state]; rfl
  have N0 := Fr.nil Z.heap.size
  show own_G p e below (fun o_ s₂ => ∃ v_ L_, o_ = .returned v_ ∧ Q_em Z a_OUT a__VALUES a_INP a_TAKE_COMPLETE a_OUT_text a_INP_text a_TAKE_COMPLETE_text a_OUT_text_value a_INP_text_value a_TAKE_COMPLETE_text_value a_EM k__VALUES k_OUT_text_value k_INP_text_value k_TAKE_COMPLETE_text_value cs0 h0 v_ s₂.heap L_ ∧ FrameEnd s o_ s₂ L_ ({ frames := 0, cells := 0, slots := 0, locals := 0 } : Room).cells ({ frames := 0, cells := 0, slots := 0, locals := 0 } : Room).slots) (s₁.setTop (entryFrame m #[] 1))
  refine own_go (s₁.setTop (mkF m 0 #[.unset] [])) (fun t_ k_ => castTop (own_ef_em m ) k_) ?_
  have w' := w
  obtain ⟨S_OUT, X_OUT, S__VALUES, X__VALUES, S_INP, X_INP, S_TAKE_COMPLETE, X_TAKE_COMPLETE, F_OUT_text, X_OUT_text, F_INP_text, X_INP_text, F_TAKE_COMPLETE_text, X_TAKE_COMPLETE_text, F_OUT_text_value, F_INP_text_value, F_TAKE_COMPLETE_text_value, F_OUT_text_coder, F_INP_text_coder, F_TAKE_COMPLETE_text_coder, V__VALUES, V_OUT_text_value, V_INP_text_value, V_TAKE_COMPLETE_text_value, S_CS, n_CS, S_EM, X_EM, F_EM⟩ := w'
  obtain ⟨T1, X1, e1, st1⟩ := getS2 X0 hx hZ hown (host := "") (Or.inl (hw _ (List.mem_of_getElem? (i := 24) rfl))) Via.refl e0 (S_EM.ext O) (g := (mkF m 0 #[.unset] [])) rfl (hb hby own_d_jdk_32_method_1_0)
  refine own_go (T1.setTop (mkF m 3 #[.unset] [(.ref a_EM)])) (fun t_ k_ => st1 _ k_) ?_
  refine own_go (T1.setTop (mkF m 4 #[.val (.ref a_EM)] [])) (fun t_ k_ => XS.astoreN X1.here hx rfl (hb hby own_d_jdk_32_method_1_3) rfl rfl (l' := #[.val (.ref a_EM)]) rfl k_) ?_
  refine own_go (T1.setTop (mkF m 5 #[.val (.ref a_EM)] [(.ref a_EM)])) (fun t_ k_ => XS.aloadN X1.here hx rfl (hb hby own_d_jdk_32_method_1_4) rfl rfl k_) ?_
  obtain ⟨fs, hr, hrun, hended, hW, hsame⟩ := X1.leave (v := some (.ref a_EM)) (fun h => by rw [Bd.returns] at h; cases h)
  refine ⟨_, _, Jvm.RoadKit.retOut X1 hx Bd.returns rfl (Or.inr (Or.inr (Or.inr (Or.inr ⟨rfl, rfl, rfl⟩)))) (hb hby own_d_jdk_32_method_1_5) hr, hrun, hended, _, _, rfl, ?_, ⟨_, rfl⟩, hW, hsame.mono (by decide) (by decide)⟩
  show Q_em Z a_OUT a__VALUES a_INP a_TAKE_COMPLETE a_OUT_text a_INP_text a_TAKE_COMPLETE_text a_OUT_text_value a_INP_text_value a_TAKE_COMPLETE_text_value a_EM k__VALUES k_OUT_text_value k_INP_text_value k_TAKE_COMPLETE_text_value cs0 h0 _ T1.heap _
  exact ⟨rfl, N0, e1⟩
theorem own_pn2 : plainName "java/util/Objects" = true := by first | (simp [plainName, overriddenIn]; done) | decide +kernel
theorem own_ef_rn (m : MethodId) (a : Addr) : entryFrame m #[(.ref a)] 1 = mkF m 0 #[.val (.ref a)] [] := by first | (simp [entryFrame, mkF, argsToLocals, Value.category]; done) | rfl
theorem own_d_jdk_31_method_10_0 : decode jdk_31_method_10_code 0 = .ok (.aload_n 0, 1) := by decide +kernel
theorem own_d_jdk_31_method_10_1 : decode jdk_31_method_10_code 1 = .ok (.ifnonnull 11, 3) := by decide +kernel
theorem own_d_jdk_31_method_10_12 : decode jdk_31_method_10_code 12 = .ok (.aload_n 0, 1) := by decide +kernel
theorem own_d_jdk_31_method_10_13 : decode jdk_31_method_10_code 13 = .ok (.areturn, 1) := by decide +kernel
def Q_rn (Z : State) (a : Addr) (h0 : Heap) (v_ : Option Value) (h : Heap) (L_ : List Loc) : Prop := v_ = some (.ref a) ∧ Fr Z.heap.size L_ ∧ (h = h0)
set_option maxRecDepth 65536 in
set_option maxHeartbeats 40000000 in
theorem rm_rn (l : Launch) (Z : State) (a0 : Array Value) (hw : ∀ d ∈ tables_1, d.before a0 Z = true) (ws : List Jvm.Cond) (a : Addr) (h0 : Heap) (O : Ext Z.heap h0) :
    MetFree l (⟨"java/util/Objects", "requireNonNull", "(Ljava/lang/Object;)Ljava/lang/Object;"⟩ : MethodName) (head1 (Jvm.Cond.code (⟨"java/util/Objects", "requireNonNull", "(Ljava/lang/Object;)Ljava/lang/Object;"⟩ : MethodName) jdk_31_method_10_code 1 (some (.object "java/lang/Object")) :: ws) ({ frames := 0, cells := 0, slots := 0, locals := 0 } : Room)) (fun a_ U_ => a_ = #[(.ref a)] ∧ Z.Warmed39 U_.vm ∧ U_.heap = h0) (fun _ _ _ _ _ => True) (fun _ U_ o_ U2_ => ∃ v_ L_, o_ = .returned v_ ∧ Q_rn Z a h0 v_ U2_.heap L_ ∧ FrameEnd U_ o_ U2_ L_ ({ frames := 0, cells := 0, slots := 0, locals := 0 } : Room).cells ({ frames := 0, cells := 0, slots := 0, locals := 0 } : Room).slots) := by
  refine MetFree.of_bodySF (plainFor_of_name own_pn2) hisR ?_
  intro p e s m args below meth c s₁ Bd hml0 hP hK
  obtain ⟨rfl, hZ, hh⟩ := hP
  have hx := Bd.exec
  have hby := Bd.bytes
  have hml : c.maxLocals = 1 := hml0
  have hown : s.vm.findClass "java/util/Objects" = some m.cls := findClass_of_methodNamed Bd.named
  have hnm := (name_of_methodNamed Bd.named Bd.method).1
  have X0 : Stand p l e ({ frames := 0, cells := 0, slots := 0, locals := 0 } : Room) s m #[(.ref a)] below meth c s₁ [] 0 0 := Stand.of_body Bd
  have e0 : s₁.heap = h0 := by rw [← hh, Bd.state]; rfl
  have N0 := Fr.nil Z.heap.size
  show own_G p e below (fun o_ s₂ => ∃ v_ L_, o_ = .returned v_ ∧ Q_rn Z a h0 v_ s₂.heap L_ ∧ FrameEnd s o_ s₂ L_ ({ frames := 0, cells := 0, slots := 0, locals := 0 } : Room).cells ({ frames := 0, cells := 0, slots := 0, locals := 0 } : Room).slots) (s₁.setTop (entryFrame m #[(.ref a)] 1))
  refine own_go (s₁.setTop (mkF m 0 #[.val (.ref a)] [])) (fun t_ k_ => castTop (own_ef_rn m a) k_) ?_
  refine own_go (s₁.setTop (mkF m 1 #[.val (.ref a)] [(.ref a)])) (fun t_ k_ => XS.aloadN X0.here hx rfl (hb hby own_d_jdk_31_method_10_0) rfl rfl k_) ?_
  refine own_go (s₁.setTop (mkF m 12 #[.val (.ref a)] [])) (fun t_ k_ => XS.ifnonnullYes X0.here hx rfl (pc0 := 1) (pc' := 12) rfl (hb hby own_d_jdk_31_method_10_1) rfl (by decide) (by decide) k_) ?_
  refine own_go (s₁.setTop (mkF m 13 #[.val (.ref a)] [(.ref a)])) (fun t_ k_ => XS.aloadN X0.here hx rfl (hb hby own_d_jdk_31_method_10_12) rfl rfl k_) ?_
  obtain ⟨fs, hr, hrun, hended, hW, hsame⟩ := X0.leave (v := some (.ref a)) (fun h => by rw [Bd.returns] at h; cases h)
  refine ⟨_, _, Jvm.RoadKit.retOut X0 hx Bd.returns rfl (Or.inr (Or.inr (Or.inr (Or.inr ⟨rfl, rfl, rfl⟩)))) (hb hby own_d_jdk_31_method_10_13) hr, hrun, hended, _, _, rfl, ?_, ⟨_, rfl⟩, hW, hsame.mono (by decide) (by decide)⟩
  show Q_rn Z a h0 _ s₁.heap _
  exact ⟨rfl, N0, e0⟩
theorem own_ef_oi (m : MethodId) (a : Addr) (b : Addr) : entryFrame m #[(.ref a), (.ref b)] 2 = mkF m 0 #[.val (.ref a), .val (.ref b)] [] := by first | (simp [entryFrame, mkF, argsToLocals, Value.category]; done) | rfl
theorem own_d_jdk_32_method_2_0 : decode jdk_32_method_2_code 0 = .ok (.aload_n 0, 1) := by decide +kernel
theorem own_d_jdk_32_method_2_1 : decode jdk_32_method_2_code 1 = .ok (.invokespecial 7, 3) := by decide +kernel
theorem own_d_jdk_32_method_2_4 : decode jdk_32_method_2_code 4 = .ok (.aload_n 0, 1) := by decide +kernel
theorem own_d_jdk_32_method_2_5 : decode jdk_32_method_2_code 5 = .ok (.aload_n 1, 1) := by decide +kernel
theorem own_d_jdk_32_method_2_6 : decode jdk_32_method_2_code 6 = .ok (.putfield 13, 3) := by decide +kernel
theorem own_d_jdk_32_method_2_9 : decode jdk_32_method_2_code 9 = .ok (.return_, 1) := by decide +kernel
def Q_oi (Z : State) (a : Addr) (b : Addr) (h0 : Heap) (v_ : Option Value) (h : Heap) (L_ : List Loc) : Prop := v_ = none ∧ Fr Z.heap.size L_ ∧ (Keep h0 h [a] ∧ Exa Z h a "java/util/Optional" ∧ Fld Z h a "java/util/Optional" "value" "Ljava/lang/Object;" (.ref b))
set_option maxRecDepth 65536 in
set_option maxHeartbeats 40000000 in
theorem rm_oi (l : Launch) (Z : State) (a0 : Array Value) (hw : ∀ d ∈ tables_1, d.before a0 Z = true) (ws : List Jvm.Cond) (a : Addr) (b : Addr) (h0 : Heap) (O : Ext Z.heap h0) (X : Exa Z h0 a "java/util/Optional") (F : Fld Z h0 a "java/util/Optional" "value" "Ljava/lang/Object;" .null) (ga : Z.heap.size ≤ a) :
    MetFree l (⟨"java/util/Optional", "<init>", "(Ljava/lang/Object;)V"⟩ : MethodName) (head1 (Jvm.Cond.code (⟨"java/util/Optional", "<init>", "(Ljava/lang/Object;)V"⟩ : MethodName) jdk_32_method_2_code 2 none :: ws) ({ frames := 1, cells := 0, slots := 0, locals := 12 } : Room)) (fun a_ U_ => a_ = #[(.ref a), (.ref b)] ∧ Z.Warmed39 U_.vm ∧ U_.heap = h0) (fun _ _ _ _ _ => True) (fun _ U_ o_ U2_ => ∃ v_ L_, o_ = .returned v_ ∧ Q_oi Z a b h0 v_ U2_.heap L_ ∧ FrameEnd U_ o_ U2_ L_ ({ frames := 1, cells := 0, slots := 0, locals := 12 } : Room).cells ({ frames := 1, cells := 0, slots := 0, locals := 12 } : Room).slots) := by
  refine MetFree.of_bodySF (plainFor_of_name own_pn1) hisR ?_
  intro p e s m args below meth c s₁ Bd hml0 hP hK
  obtain ⟨rfl, hZ, hh⟩ := hP
  have hx := Bd.exec
  have hby := Bd.bytes
  have hml : c.maxLocals = 2 := hml0
  have hown : s.vm.findClass "java/util/Optional" = some m.cls := findClass_of_methodNamed Bd.named
  have hnm := (name_of_methodNamed Bd.named Bd.method).1
  have X0 : Stand p l e ({ frames := 1, cells := 0, slots := 0, locals := 12 } : Room) s m #[(.ref a), (.ref b)] below meth c s₁ [] 0 0 := Stand.of_body Bd
  have e0 : s₁.heap = h0 := by rw [← hh, Bd.state]; rfl
  have N0 := Fr.nil Z.heap.size
  show own_G p e below (fun o_ s₂ => ∃ v_ L_, o_ = .returned v_ ∧ Q_oi Z a b h0 v_ s₂.heap L_ ∧ FrameEnd s o_ s₂ L_ ({ frames := 1, cells := 0, slots := 0, locals := 12 } : Room).cells ({ frames := 1, cells := 0, slots := 0, locals := 12 } : Room).slots) (s₁.setTop (entryFrame m #[(.ref a), (.ref b)] 2))
  refine own_go (s₁.setTop (mkF m 0 #[.val (.ref a), .val (.ref b)] [])) (fun t_ k_ => castTop (own_ef_oi m a b) k_) ?_
  refine own_go (s₁.setTop (mkF m 1 #[.val (.ref a), .val (.ref b)] [(.ref a)])) (fun t_ k_ => XS.aloadN X0.here hx rfl (hb hby own_d_jdk_32_method_2_0) rfl rfl k_) ?_
  obtain ⟨T1, X1, e1, st1⟩ := initO X0 hx hZ hown (hw _ (List.mem_of_getElem? (i := 67) rfl)) (hw _ (List.mem_of_getElem? (i := 68) rfl)) (hw _ (List.mem_of_getElem? (i := 69) rfl)) e0 (g := (mkF m 1 #[.val (.ref a), .val (.ref b)] [(.ref a)])) rfl (by rw [hml]; rfl) rfl (hb hby own_d_jdk_32_method_2_1) (by decide) (W := 0) (by show 2 * 0 + _ ≤ _; exact Nat.le_of_eq rfl) (by decide)
  refine own_go (T1.setTop (mkF m 4 #[.val (.ref a), .val (.ref b)] [])) (fun t_ k_ => st1 _ k_) ?_
  refine own_go (T1.setTop (mkF m 5 #[.val (.ref a), .val (.ref b)] [(.ref a)])) (fun t_ k_ => XS.aloadN X1.here hx rfl (hb hby own_d_jdk_32_method_2_4) rfl rfl k_) ?_
  refine own_go (T1.setTop (mkF m 6 #[.val (.ref a), .val (.ref b)] [(.ref b), (.ref a)])) (fun t_ k_ => XS.aloadN X1.here hx rfl (hb hby own_d_jdk_32_method_2_5) rfl rfl k_) ?_
  obtain ⟨T2, h2, X2, e2, W2, st2⟩ := putF X1 hx hZ hown (host := "") (Or.inl (hw _ (List.mem_of_getElem? (i := 70) rfl))) Via.refl e1 F X (Or.inr ⟨(hw _ (List.mem_of_getElem? (i := 71) rfl)), rfl, hnm⟩) (hw _ (List.mem_of_getElem? (i := 58) rfl)) (ty := (.object "java/lang/Object")) (by decide) rfl rfl (g := (mkF m 6 #[.val (.ref a), .val (.ref b)] [(.ref b), (.ref a)])) rfl rfl (hb hby own_d_jdk_32_method_2_6)
  have Fw2 := F.same W2
  have K2 : Keep h0 h2 [a] := (Keep.refl h0 [a]).wr W2 (Or.inl (List.mem_of_getElem? (i := 0) rfl))
  have N2 := Fr.snoc X2 N0 ga
  have O2 := own_extW O W2 ga
  refine own_go (T2.setTop (mkF m 9 #[.val (.ref a), .val (.ref b)] [])) (fun t_ k_ => st2 _ k_) ?_
  obtain ⟨fs, hr, hrun, hended, hW, hsame⟩ := X2.leave (v := none) (fun _ => rfl)
  refine ⟨_, _, X2.returnOut hx Bd.returns (hb hby own_d_jdk_32_method_2_9) hr, hrun, hended, _, _, rfl, ?_, ⟨_, rfl⟩, hW, hsame.mono (by decide) (by decide)⟩
  show Q_oi Z a b h0 _ T2.heap _
  have Fz3 := (X.wr W2)
  show Q_oi Z a b h0 _ T2.heap _
  rw [e2]
  exact ⟨rfl, N2, K2, Fz3, Fw2⟩
theorem own_ef_oo (m : MethodId) (b : Addr) : entryFrame m #[(.ref b)] 1 = mkF m 0 #[.val (.ref b)] [] := by first | (simp [entryFrame, mkF, argsToLocals, Value.category]; done) | rfl
theorem own_d_jdk_32_method_3_0 : decode jdk_32_method_3_code 0 = .ok (.new 2, 3) := by decide +kernel
theorem own_d_jdk_32_method_3_3 : decode jdk_32_method_3_code 3 = .ok (.dup, 1) := by decide +kernel
theorem own_d_jdk_32_method_3_4 : decode jdk_32_method_3_code 4 = .ok (.aload_n 0, 1) := by decide +kernel
theorem own_d_jdk_32_method_3_5 : decode jdk_32_method_3_code 5 = .ok (.invokestatic 17, 3) := by decide +kernel
theorem own_pd0 : parseMethodDescriptor "(Ljava/lang/Object;)Ljava/lang/Object;" = some ⟨[(.object "java/lang/Object")], some (.object "java/lang/Object")⟩ := by decide +kernel
theorem own_d_jdk_32_method_3_8 : decode jdk_32_method_3_code 8 = .ok (.invokespecial 23, 3) := by decide +kernel
theorem own_pd1 : parseMethodDescriptor "(Ljava/lang/Object;)V" = some ⟨[(.object "java/lang/Object")], none⟩ := by decide +kernel
theorem own_d_jdk_32_method_3_11 : decode jdk_32_method_3_code 11 = .ok (.areturn, 1) := by decide +kernel
def Q_oo (Z : State) (b : Addr) (h0 : Heap) (v_ : Option Value) (h : Heap) (L_ : List Loc) : Prop := ∃ (r : Addr), v_ = some (.ref r) ∧ Fr Z.heap.size L_ ∧ (Keep h0 h [] ∧ Exa Z h r "java/util/Optional" ∧ Fld Z h r "java/util/Optional" "value" "Ljava/lang/Object;" (.ref b))
set_option maxRecDepth 65536 in
set_option maxHeartbeats 40000000 in
theorem rm_oo (l : Launch) (Z : State) (a0 : Array Value) (hw : ∀ d ∈ tables_1, d.before a0 Z = true) (ws : List Jvm.Cond) (b : Addr) (h0 : Heap) (O : Ext Z.heap h0) :
    MetFree l (⟨"java/util/Optional", "of", "(Ljava/lang/Object;)Ljava/util/Optional;"⟩ : MethodName) (head1 (Jvm.Cond.code (⟨"java/util/Optional", "of", "(Ljava/lang/Object;)Ljava/util/Optional;"⟩ : MethodName) jdk_32_method_3_code 1 (some (.object "java/util/Optional")) :: ws) ({ frames := 2, cells := 1, slots := 1, locals := 26 } : Room)) (fun a_ U_ => a_ = #[(.ref b)] ∧ Z.Warmed39 U_.vm ∧ U_.heap = h0) (fun _ _ _ _ _ => True) (fun _ U_ o_ U2_ => ∃ v_ L_, o_ = .returned v_ ∧ Q_oo Z b h0 v_ U2_.heap L_ ∧ FrameEnd U_ o_ U2_ L_ ({ frames := 2, cells := 1, slots := 1, locals := 26 } : Room).cells ({ frames := 2, cells := 1, slots := 1, locals := 26 } : Room).slots) := by
  refine MetFree.of_bodySF (plainFor_of_name own_pn1) hisR ?_
  intro p e s m args below meth c s₁ Bd hml0 hP hK
  obtain ⟨rfl, hZ, hh⟩ := hP
  have hx := Bd.exec
  have hby := Bd.bytes
  have hml : c.maxLocals = 1 := hml0
  have hown : s.vm.findClass "java/util/Optional" = some m.cls := findClass_of_methodNamed Bd.named
  have hnm := (name_of_methodNamed Bd.named Bd.method).1
  have X0 : Stand p l e ({ frames := 2, cells := 1, slots := 1, locals := 26 } : Room) s m #[(.ref b)] below meth c s₁ [] 0 0 := Stand.of_body Bd
  have e0 : s₁.heap = h0 := by rw [← hh, Bd.state]; rfl
  have N0 := Fr.nil Z.heap.size
  show own_G p e below (fun o_ s₂ => ∃ v_ L_, o_ = .returned v_ ∧ Q_oo Z b h0 v_ s₂.heap L_ ∧ FrameEnd s o_ s₂ L_ ({ frames := 2, cells := 1, slots := 1, locals := 26 } : Room).cells ({ frames := 2, cells := 1, slots := 1, locals := 26 } : Room).slots) (s₁.setTop (entryFrame m #[(.ref b)] 1))
  refine own_go (s₁.setTop (mkF m 0 #[.val (.ref b)] [])) (fun t_ k_ => castTop (own_ef_oo m b) k_) ?_
  obtain ⟨T1, h1, X1, e1, E1, A1, D1, U1, st1⟩ := newO X0 hx hZ hown (hw _ (List.mem_of_getElem? (i := 57) rfl)) (hw _ (List.mem_of_getElem? (i := 58) rfl)) (hw _ (List.mem_of_getElem? (i := 22) rfl)) e0 (g := (mkF m 0 #[.val (.ref b)] [])) rfl (hb hby own_d_jdk_32_method_3_0) (by decide) (by decide)
  obtain ⟨b1, g1⟩ : ∃ z, z = h0.size := ⟨_, rfl⟩
  rw [← g1] at A1 D1 U1 st1
  have ge_b1 : Z.heap.size ≤ b1 := Nat.le_trans O.1 (Nat.le_of_eq g1.symm)
  have sz_b1 : h0.size ≤ b1 := Nat.le_trans (Keep.refl h0 []).1 (Nat.le_of_eq g1.symm)
  have K1 : Keep h0 h1 [] := (Keep.refl h0 []).ext E1
  have O1 := own_ext O E1
  have Fvalue_1 : Fld Z h1 b1 "java/util/Optional" "value" "Ljava/lang/Object;" .null := D1 (Or.inr (hw _ (List.mem_of_getElem? (i := 71) rfl))) (ty := (.object "java/lang/Object")) (by decide)
  refine own_go (T1.setTop (mkF m 3 #[.val (.ref b)] [(.ref b1)])) (fun t_ k_ => st1 _ k_) ?_
  refine own_go (T1.setTop (mkF m 4 #[.val (.ref b)] [(.ref b1), (.ref b1)])) (fun t_ k_ => XS.dup X1.here hx rfl (hb hby own_d_jdk_32_method_3_3) rfl rfl k_) ?_
  refine own_go (T1.setTop (mkF m 5 #[.val (.ref b)] [(.ref b), (.ref b1), (.ref b1)])) (fun t_ k_ => XS.aloadN X1.here hx rfl (hb hby own_d_jdk_32_method_3_4) rfl rfl k_) ?_
  obtain ⟨_, _, ⟨T2, Lu2, ku2, nu2⟩, -, X2, ⟨Lc2, hQ2, lu2, yu2, zu2⟩, st2⟩ := Jvm.LawKit.callS X1 hx (y := (⟨"java/util/Objects", "requireNonNull", "(Ljava/lang/Object;)Ljava/lang/Object;"⟩ : MethodName)) hown (mvT hZ (hw _ (List.mem_of_getElem? (i := 59) rfl))) (mvT hZ (hw _ (List.mem_of_getElem? (i := 60) rfl))) (mvT hZ (hw _ (List.mem_of_getElem? (i := 61) rfl))) (mvT hZ (hw _ (List.mem_of_getElem? (i := 62) rfl))) (by decide) (backOf (W := 2) (rm_rn l Z a0 hw [] (b) h1 O1 ) hZ (hw _ (List.mem_of_getElem? (i := 62) rfl)) (hw _ (List.mem_of_getElem? (i := 61) rfl)) (by decide) (by decide)) (g := (mkF m 5 #[.val (.ref b)] [(.ref b), (.ref b1), (.ref b1)])) rfl (by rw [hml]; rfl) (argsL := [(.ref b)]) (rest := [(.ref b1), (.ref b1)]) (lenOf own_pd0 rfl) rfl (by show 2 * 0 + _ ≤ _; exact Nat.le_of_eq rfl) (hb hby own_d_jdk_32_method_3_5) (fun _ _ => ⟨rfl, e1, (by decide : 1 + 0 ≤ _), (by decide : 1 + 0 ≤ _)⟩)
  dsimp only [Pt.U, Pt.locs, Pt.cells, Pt.slots] at X2 lu2 yu2 zu2 st2 hQ2
  subst lu2 yu2 zu2
  obtain ⟨rfl, N2q, e2⟩ := hQ2
  have N2 := Fr.app N0 N2q
  refine own_go (T2.setTop (mkF m 8 #[.val (.ref b)] [(.ref b), (.ref b1), (.ref b1)])) (fun t_ k_ => st2 _ k_) ?_
  obtain ⟨_, _, ⟨T3, Lu3, ku3, nu3⟩, -, X3, ⟨Lc3, hQ3, lu3, yu3, zu3⟩, st3⟩ := X2.specialBack hx (y := (⟨"java/util/Optional", "<init>", "(Ljava/lang/Object;)V"⟩ : MethodName)) rfl hown (mvT hZ (hw _ (List.mem_of_getElem? (i := 63) rfl))) (mvT hZ (hw _ (List.mem_of_getElem? (i := 64) rfl))) (mvT hZ (hw _ (List.mem_of_getElem? (i := 66) rfl))) (by decide) (backOf (W := 1) (rm_oi l Z a0 hw [] (b1) (b) h1 O1 A1 Fvalue_1 ge_b1) hZ (hw _ (List.mem_of_getElem? (i := 66) rfl)) (hw _ (List.mem_of_getElem? (i := 22) rfl)) (by decide) (by decide)) (g := (mkF m 8 #[.val (.ref b)] [(.ref b), (.ref b1), (.ref b1)])) rfl (by rw [hml]; rfl) (Steps.refl _) (a := b1) (argsL := [(.ref b)]) (rest := [(.ref b1)]) (lenOf own_pd1 rfl) rfl (by show 2 * 0 + _ ≤ _; exact Nat.le_of_eq rfl) (hb hby own_d_jdk_32_method_3_8) (fun _ _ => ⟨rfl, e2, (by decide : 1 + 0 ≤ _), (by decide : 1 + 0 ≤ _)⟩)
  dsimp only [Pt.U, Pt.locs, Pt.cells, Pt.slots] at X3 lu3 yu3 zu3 st3 hQ3
  subst lu3 yu3 zu3
  obtain ⟨rfl, N3q, K3q, X3q, F3q⟩ := hQ3
  have N3 := Fr.app N2 N3q
  have O3 := own_extK O1 K3q (allS ge_b1 all0)
  have KK3 : Keep h0 T3.heap [] := K1.trans K3q (allS (Or.inr sz_b1) all0)
  refine own_go (T3.setTop (mkF m 11 #[.val (.ref b)] [(.ref b1)])) (fun t_ k_ => st3.trans k_) ?_
  obtain ⟨fs, hr, hrun, hended, hW, hsame⟩ := X3.leave (v := some (.ref b1)) (fun h => by rw [Bd.returns] at h; cases h)
  refine ⟨_, _, Jvm.RoadKit.retOut X3 hx Bd.returns rfl (Or.inr (Or.inr (Or.inr (Or.inr ⟨rfl, rfl, rfl⟩)))) (hb hby own_d_jdk_32_method_3_11) hr, hrun, hended, _, _, rfl, ?_, ⟨_, rfl⟩, hW, hsame.mono (by decide) (by decide)⟩
  show Q_oo Z b h0 _ T3.heap _
  exact ⟨_, rfl, N3, KK3, X3q, F3q⟩
theorem own_ef_pN (m : MethodId) (a : Addr) : entryFrame m #[(.ref a)] 1 = mkF m 0 #[.val (.ref a)] [] := by first | (simp [entryFrame, mkF, argsToLocals, Value.category]; done) | rfl
theorem own_d_jdk_32_method_6_0 : decode jdk_32_method_6_code 0 = .ok (.aload_n 0, 1) := by decide +kernel
theorem own_d_jdk_32_method_6_1 : decode jdk_32_method_6_code 1 = .ok (.getfield 13, 3) := by decide +kernel
theorem own_d_jdk_32_method_6_4 : decode jdk_32_method_6_code 4 = .ok (.ifnull 7, 3) := by decide +kernel
theorem own_d_jdk_32_method_6_11 : decode jdk_32_method_6_code 11 = .ok (.iconst 0, 1) := by decide +kernel
theorem own_d_jdk_32_method_6_12 : decode jdk_32_method_6_code 12 = .ok (.ireturn, 1) := by decide +kernel
def Q_pN (Z : State) (a : Addr) (h0 : Heap) (v_ : Option Value) (h : Heap) (L_ : List Loc) : Prop := v_ = some (.int 0) ∧ Fr Z.heap.size L_ ∧ (h = h0)
set_option maxRecDepth 65536 in
set_option maxHeartbeats 40000000 in
theorem rm_pN (l : Launch) (Z : State) (a0 : Array Value) (hw : ∀ d ∈ tables_1, d.before a0 Z = true) (ws : List Jvm.Cond) (a : Addr) (h0 : Heap) (O : Ext Z.heap h0) (F : Fld Z h0 a "java/util/Optional" "value" "Ljava/lang/Object;" .null) :
    MetFree l (⟨"java/util/Optional", "isPresent", "()Z"⟩ : MethodName) (head1 (Jvm.Cond.code (⟨"java/util/Optional", "isPresent", "()Z"⟩ : MethodName) jdk_32_method_6_code 1 (some .boolean) :: ws) ({ frames := 0, cells := 0, slots := 0, locals := 0 } : Room)) (fun a_ U_ => a_ = #[(.ref a)] ∧ Z.Warmed39 U_.vm ∧ U_.heap = h0) (fun _ _ _ _ _ => True) (fun _ U_ o_ U2_ => ∃ v_ L_, o_ = .returned v_ ∧ Q_pN Z a h0 v_ U2_.heap L_ ∧ FrameEnd U_ o_ U2_ L_ ({ frames := 0, cells := 0, slots := 0, locals := 0 } : Room).cells ({ frames := 0, cells := 0, slots := 0, locals := 0 } : Room).slots) := by
  refine MetFree.of_bodySF (plainFor_of_name own_pn1) hisR ?_
  intro p e s m args below meth c s₁ Bd hml0 hP hK
  obtain ⟨rfl, hZ, hh⟩ := hP
  have hx := Bd.exec
  have hby := Bd.bytes
  have hml : c.maxLocals = 1 := hml0
  have hown : s.vm.findClass "java/util/Optional" = some m.cls := findClass_of_methodNamed Bd.named
  have hnm := (name_of_methodNamed Bd.named Bd.method).1
  have X0 : Stand p l e ({ frames := 0, cells := 0, slots := 0, locals := 0 } : Room) s m #[(.ref a)] below meth c s₁ [] 0 0 := Stand.of_body Bd
  have e0 : s₁.heap = h0 := by rw [← hh, Bd.state]; rfl
  have N0 := Fr.nil Z.heap.size
  show own_G p e below (fun o_ s₂ => ∃ v_ L_, o_ = .returned v_ ∧ Q_pN Z a h0 v_ s₂.heap L_ ∧ FrameEnd s o_ s₂ L_ ({ frames := 0, cells := 0, slots := 0, locals := 0 } : Room).cells ({ frames := 0, cells := 0, slots := 0, locals := 0 } : Room).slots) (s₁.setTop (entryFrame m #[(.ref a)] 1))
  refine own_go (s₁.setTop (mkF m 0 #[.val (.ref a)] [])) (fun t_ k_ => castTop (own_ef_pN m a) k_) ?_
  refine own_go (s₁.setTop (mkF m 1 #[.val (.ref a)] [(.ref a)])) (fun t_ k_ => XS.aloadN X0.here hx rfl (hb hby own_d_jdk_32_method_6_0) rfl rfl k_) ?_
  obtain ⟨T1, X1, e1, st1⟩ := getF X0 hx hZ hown (host := "") (Or.inl (hw _ (List.mem_of_getElem? (i := 70) rfl))) Via.refl e0 F (g := (mkF m 1 #[.val (.ref a)] [(.ref a)])) rfl rfl (hb hby own_d_jdk_32_method_6_1)
  refine own_go (T1.setTop (mkF m 4 #[.val (.ref a)] [.null])) (fun t_ k_ => st1 _ k_) ?_
  refine own_go (T1.setTop (mkF m 11 #[.val (.ref a)] [])) (fun t_ k_ => XS.ifnullYes X1.here hx rfl (pc0 := 4) (pc' := 11) rfl (hb hby own_d_jdk_32_method_6_4) rfl (by decide) (by decide) k_) ?_
  refine own_go (T1.setTop (mkF m 12 #[.val (.ref a)] [(.int (0 : Int32))])) (fun t_ k_ => XS.iconst X1.here hx rfl (hb hby own_d_jdk_32_method_6_11) k_) ?_
  obtain ⟨fs, hr, hrun, hended, hW, hsame⟩ := X1.leave (v := some (.int (nar .boolean (0 : Int32)))) (fun h => by rw [Bd.returns] at h; cases h)
  refine ⟨_, _, retN X1 hx (t := .boolean) Bd.returns (by simp) (hb hby own_d_jdk_32_method_6_12) hr, hrun, hended, _, _, rfl, ?_, ⟨_, rfl⟩, hW, hsame.mono (by decide) (by decide)⟩
  show Q_pN Z a h0 _ T1.heap _
  exact ⟨rfl, N0, e1⟩
theorem own_ef_pR (m : MethodId) (a : Addr) : entryFrame m #[(.ref a)] 1 = mkF m 0 #[.val (.ref a)] [] := by first | (simp [entryFrame, mkF, argsToLocals, Value.category]; done) | rfl
theorem own_d_jdk_32_method_6_7 : decode jdk_32_method_6_code 7 = .ok (.iconst 1, 1) := by decide +kernel
theorem own_d_jdk_32_method_6_8 : decode jdk_32_method_6_code 8 = .ok (.goto 4, 3) := by decide +kernel
def Q_pR (Z : State) (a : Addr) (b : Addr) (h0 : Heap) (v_ : Option Value) (h : Heap) (L_ : List Loc) : Prop := v_ = some (.int 1) ∧ Fr Z.heap.size L_ ∧ (h = h0)
set_option maxRecDepth 65536 in
set_option maxHeartbeats 40000000 in
theorem rm_pR (l : Launch) (Z : State) (a0 : Array Value) (hw : ∀ d ∈ tables_1, d.before a0 Z = true) (ws : List Jvm.Cond) (a : Addr) (b : Addr) (h0 : Heap) (O : Ext Z.heap h0) (F : Fld Z h0 a "java/util/Optional" "value" "Ljava/lang/Object;" (.ref b)) :
    MetFree l (⟨"java/util/Optional", "isPresent", "()Z"⟩ : MethodName) (head1 (Jvm.Cond.code (⟨"java/util/Optional", "isPresent", "()Z"⟩ : MethodName) jdk_32_method_6_code 1 (some .boolean) :: ws) ({ frames := 0, cells := 0, slots := 0, locals := 0 } : Room)) (fun a_ U_ => a_ = #[(.ref a)] ∧ Z.Warmed39 U_.vm ∧ U_.heap = h0) (fun _ _ _ _ _ => True) (fun _ U_ o_ U2_ => ∃ v_ L_, o_ = .returned v_ ∧ Q_pR Z a b h0 v_ U2_.heap L_ ∧ FrameEnd U_ o_ U2_ L_ ({ frames := 0, cells := 0, slots := 0, locals := 0 } : Room).cells ({ frames := 0, cells := 0, slots := 0, locals := 0 } : Room).slots) := by
  refine MetFree.of_bodySF (plainFor_of_name own_pn1) hisR ?_
  intro p e s m args below meth c s₁ Bd hml0 hP hK
  obtain ⟨rfl, hZ, hh⟩ := hP
  have hx := Bd.exec
  have hby := Bd.bytes
  have hml : c.maxLocals = 1 := hml0
  have hown : s.vm.findClass "java/util/Optional" = some m.cls := findClass_of_methodNamed Bd.named
  have hnm := (name_of_methodNamed Bd.named Bd.method).1
  have X0 : Stand p l e ({ frames := 0, cells := 0, slots := 0, locals := 0 } : Room) s m #[(.ref a)] below meth c s₁ [] 0 0 := Stand.of_body Bd
  have e0 : s₁.heap = h0 := by rw [← hh, Bd.state]; rfl
  have N0 := Fr.nil Z.heap.size
  show own_G p e below (fun o_ s₂ => ∃ v_ L_, o_ = .returned v_ ∧ Q_pR Z a b h0 v_ s₂.heap L_ ∧ FrameEnd s o_ s₂ L_ ({ frames := 0, cells := 0, slots := 0, locals := 0 } : Room).cells ({ frames := 0, cells := 0, slots := 0, locals := 0 } : Room).slots) (s₁.setTop (entryFrame m #[(.ref a)] 1))
  refine own_go (s₁.setTop (mkF m 0 #[.val (.ref a)] [])) (fun t_ k_ => castTop (own_ef_pR m a) k_) ?_
  refine own_go (s₁.setTop (mkF m 1 #[.val (.ref a)] [(.ref a)])) (fun t_ k_ => XS.aloadN X0.here hx rfl (hb hby own_d_jdk_32_method_6_0) rfl rfl k_) ?_
  obtain ⟨T1, X1, e1, st1⟩ := getF X0 hx hZ hown (host := "") (Or.inl (hw _ (List.mem_of_getElem? (i := 70) rfl))) Via.refl e0 F (g := (mkF m 1 #[.val (.ref a)] [(.ref a)])) rfl rfl (hb hby own_d_jdk_32_method_6_1)
  refine own_go (T1.setTop (mkF m 4 #[.val (.ref a)] [(.ref b)])) (fun t_ k_ => st1 _ k_) ?_
  refine own_go (T1.setTop (mkF m 7 #[.val (.ref a)] [])) (fun t_ k_ => XS.ifnullNo X1.here hx rfl (hb hby own_d_jdk_32_method_6_4) rfl k_) ?_
  refine own_go (T1.setTop (mkF m 8 #[.val (.ref a)] [(.int (1 : Int32))])) (fun t_ k_ => XS.iconst X1.here hx rfl (hb hby own_d_jdk_32_method_6_7) k_) ?_
  refine own_go (T1.setTop (mkF m 12 #[.val (.ref a)] [(.int (1 : Int32))])) (fun t_ k_ => XS.goto X1.here hx rfl (pc0 := 8) (pc' := 12) rfl (hb hby own_d_jdk_32_method_6_8) (by decide) (by decide) k_) ?_
  obtain ⟨fs, hr, hrun, hended, hW, hsame⟩ := X1.leave (v := some (.int (nar .boolean (1 : Int32)))) (fun h => by rw [Bd.returns] at h; cases h)
  refine ⟨_, _, retN X1 hx (t := .boolean) Bd.returns (by simp) (hb hby own_d_jdk_32_method_6_12) hr, hrun, hended, _, _, rfl, ?_, ⟨_, rfl⟩, hW, hsame.mono (by decide) (by decide)⟩
  show Q_pR Z a b h0 _ T1.heap _
  exact ⟨rfl, N0, e1⟩
theorem own_ef_gR (m : MethodId) (a : Addr) : entryFrame m #[(.ref a)] 1 = mkF m 0 #[.val (.ref a)] [] := by first | (simp [entryFrame, mkF, argsToLocals, Value.category]; done) | rfl
theorem own_d_jdk_32_method_5_0 : decode jdk_32_method_5_code 0 = .ok (.aload_n 0, 1) := by decide +kernel
theorem own_d_jdk_32_method_5_1 : decode jdk_32_method_5_code 1 = .ok (.getfield 13, 3) := by decide +kernel
theorem own_d_jdk_32_method_5_4 : decode jdk_32_method_5_code 4 = .ok (.ifnonnull 13, 3) := by decide +kernel
theorem own_d_jdk_32_method_5_17 : decode jdk_32_method_5_code 17 = .ok (.aload_n 0, 1) := by decide +kernel
theorem own_d_jdk_32_method_5_18 : decode jdk_32_method_5_code 18 = .ok (.getfield 13, 3) := by decide +kernel
theorem own_d_jdk_32_method_5_21 : decode jdk_32_method_5_code 21 = .ok (.areturn, 1) := by decide +kernel
def Q_gR (Z : State) (a : Addr) (b : Addr) (h0 : Heap) (v_ : Option Value) (h : Heap) (L_ : List Loc) : Prop := v_ = some (.ref b) ∧ Fr Z.heap.size L_ ∧ (h = h0)
set_option maxRecDepth 65536 in
set_option maxHeartbeats 40000000 in
theorem rm_gR (l : Launch) (Z : State) (a0 : Array Value) (hw : ∀ d ∈ tables_1, d.before a0 Z = true) (ws : List Jvm.Cond) (a : Addr) (b : Addr) (h0 : Heap) (O : Ext Z.heap h0) (F : Fld Z h0 a "java/util/Optional" "value" "Ljava/lang/Object;" (.ref b)) :
    MetFree l (⟨"java/util/Optional", "get", "()Ljava/lang/Object;"⟩ : MethodName) (head1 (Jvm.Cond.code (⟨"java/util/Optional", "get", "()Ljava/lang/Object;"⟩ : MethodName) jdk_32_method_5_code 1 (some (.object "java/lang/Object")) :: ws) ({ frames := 0, cells := 0, slots := 0, locals := 0 } : Room)) (fun a_ U_ => a_ = #[(.ref a)] ∧ Z.Warmed39 U_.vm ∧ U_.heap = h0) (fun _ _ _ _ _ => True) (fun _ U_ o_ U2_ => ∃ v_ L_, o_ = .returned v_ ∧ Q_gR Z a b h0 v_ U2_.heap L_ ∧ FrameEnd U_ o_ U2_ L_ ({ frames := 0, cells := 0, slots := 0, locals := 0 } : Room).cells ({ frames := 0, cells := 0, slots := 0, locals := 0 } : Room).slots) := by
  refine MetFree.of_bodySF (plainFor_of_name own_pn1) hisR ?_
  intro p e s m args below meth c s₁ Bd hml0 hP hK
  obtain ⟨rfl, hZ, hh⟩ := hP
  have hx := Bd.exec
  have hby := Bd.bytes
  have hml : c.maxLocals = 1 := hml0
  have hown : s.vm.findClass "java/util/Optional" = some m.cls := findClass_of_methodNamed Bd.named
  have hnm := (name_of_methodNamed Bd.named Bd.method).1
  have X0 : Stand p l e ({ frames := 0, cells := 0, slots := 0, locals := 0 } : Room) s m #[(.ref a)] below meth c s₁ [] 0 0 := Stand.of_body Bd
  have e0 : s₁.heap = h0 := by rw [← hh, Bd.state]; rfl
  have N0 := Fr.nil Z.heap.size
  show own_G p e below (fun o_ s₂ => ∃ v_ L_, o_ = .returned v_ ∧ Q_gR Z a b h0 v_ s₂.heap L_ ∧ FrameEnd s o_ s₂ L_ ({ frames := 0, cells := 0, slots := 0, locals := 0 } : Room).cells ({ frames := 0, cells := 0, slots := 0, locals := 0 } : Room).slots) (s₁.setTop (entryFrame m #[(.ref a)] 1))
  refine own_go (s₁.setTop (mkF m 0 #[.val (.ref a)] [])) (fun t_ k_ => castTop (own_ef_gR m a) k_) ?_
  refine own_go (s₁.setTop (mkF m 1 #[.val (.ref a)] [(.ref a)])) (fun t_ k_ => XS.aloadN X0.here hx rfl (hb hby own_d_jdk_32_method_5_0) rfl rfl k_) ?_
  obtain ⟨T1, X1, e1, st1⟩ := getF X0 hx hZ hown (host := "") (Or.inl (hw _ (List.mem_of_getElem? (i := 70) rfl))) Via.refl e0 F (g := (mkF m 1 #[.val (.ref a)] [(.ref a)])) rfl rfl (hb hby own_d_jdk_32_method_5_1)
  refine own_go (T1.setTop (mkF m 4 #[.val (.ref a)] [(.ref b)])) (fun t_ k_ => st1 _ k_) ?_
  refine own_go (T1.setTop (mkF m 17 #[.val (.ref a)] [])) (fun t_ k_ => XS.ifnonnullYes X1.here hx rfl (pc0 := 4) (pc' := 17) rfl (hb hby own_d_jdk_32_method_5_4) rfl (by decide) (by decide) k_) ?_
  refine own_go (T1.setTop (mkF m 18 #[.val (.ref a)] [(.ref a)])) (fun t_ k_ => XS.aloadN X1.here hx rfl (hb hby own_d_jdk_32_method_5_17) rfl rfl k_) ?_
  obtain ⟨T2, X2, e2, st2⟩ := getF X1 hx hZ hown (host := "") (Or.inl (hw _ (List.mem_of_getElem? (i := 70) rfl))) Via.refl e1 F (g := (mkF m 18 #[.val (.ref a)] [(.ref a)])) rfl rfl (hb hby own_d_jdk_32_method_5_18)
  refine own_go (T2.setTop (mkF m 21 #[.val (.ref a)] [(.ref b)])) (fun t_ k_ => st2 _ k_) ?_
  obtain ⟨fs, hr, hrun, hended, hW, hsame⟩ := X2.leave (v := some (.ref b)) (fun h => by rw [Bd.returns] at h; cases h)
  refine ⟨_, _, Jvm.RoadKit.retOut X2 hx Bd.returns rfl (Or.inr (Or.inr (Or.inr (Or.inr ⟨rfl, rfl, rfl⟩)))) (hb hby own_d_jdk_32_method_5_21) hr, hrun, hended, _, _, rfl, ?_, ⟨_, rfl⟩, hW, hsame.mono (by decide) (by decide)⟩
  show Q_gR Z a b h0 _ T2.heap _
  exact ⟨rfl, N0, e2⟩
theorem own_ef_nd_OUT (m : MethodId) (o : Addr) : entryFrame m #[(.ref o)] 6 = mkF m 0 #[.val (.ref o), .unset, .unset, .unset, .unset, .unset] [] := by first | (simp [entryFrame, mkF, argsToLocals, Value.category]; done) | rfl
theorem own_d_prog_9_method_4_0 : decode prog_9_method_4_code 0 = .ok (.invokestatic 36, 3) := by decide +kernel
theorem own_pd2 : parseMethodDescriptor "()Ljava/util/Optional;" = some ⟨[], some (.object "java/util/Optional")⟩ := by decide +kernel
theorem own_d_prog_9_method_4_3 : decode prog_9_method_4_code 3 = .ok (.astore_n 1, 1) := by decide +kernel
theorem own_d_prog_9_method_4_4 : decode prog_9_method_4_code 4 = .ok (.invokestatic 42, 3) := by decide +kernel
theorem own_pd3 : parseMethodDescriptor "()[Lcom/example/tuplebag/tuplebag/bench/Workload;" = some ⟨[], some (.array (.object "com/example/tuplebag/tuplebag/bench/Workload"))⟩ := by decide +kernel
theorem own_d_prog_9_method_4_7 : decode prog_9_method_4_code 7 = .ok (.astore_n 2, 1) := by decide +kernel
theorem own_d_prog_9_method_4_8 : decode prog_9_method_4_code 8 = .ok (.aload_n 2, 1) := by decide +kernel
theorem own_d_prog_9_method_4_9 : decode prog_9_method_4_code 9 = .ok (.arraylength, 1) := by decide +kernel
theorem own_d_prog_9_method_4_10 : decode prog_9_method_4_code 10 = .ok (.istore_n 3, 1) := by decide +kernel
theorem own_d_prog_9_method_4_11 : decode prog_9_method_4_code 11 = .ok (.iconst 0, 1) := by decide +kernel
theorem own_d_prog_9_method_4_12 : decode prog_9_method_4_code 12 = .ok (.istore 4, 2) := by decide +kernel
theorem own_d_prog_9_method_4_14 : decode prog_9_method_4_code 14 = .ok (.iload 4, 2) := by decide +kernel
theorem own_d_prog_9_method_4_16 : decode prog_9_method_4_code 16 = .ok (.iload_n 3, 1) := by decide +kernel
theorem own_d_prog_9_method_4_17 : decode prog_9_method_4_code 17 = .ok (.if_icmp .ge 33, 3) := by decide +kernel
theorem own_d_prog_9_method_4_20 : decode prog_9_method_4_code 20 = .ok (.aload_n 2, 1) := by decide +kernel
theorem own_d_prog_9_method_4_21 : decode prog_9_method_4_code 21 = .ok (.iload 4, 2) := by decide +kernel
theorem own_d_prog_9_method_4_23 : decode prog_9_method_4_code 23 = .ok (.aaload, 1) := by decide +kernel
theorem own_d_prog_9_method_4_24 : decode prog_9_method_4_code 24 = .ok (.astore 5, 2) := by decide +kernel
theorem own_d_prog_9_method_4_26 : decode prog_9_method_4_code 26 = .ok (.aload 5, 2) := by decide +kernel
theorem own_d_prog_9_method_4_28 : decode prog_9_method_4_code 28 = .ok (.getfield 32, 3) := by decide +kernel
theorem own_d_prog_9_method_4_31 : decode prog_9_method_4_code 31 = .ok (.aload_n 0, 1) := by decide +kernel
theorem own_d_prog_9_method_4_32 : decode prog_9_method_4_code 32 = .ok (.invokevirtual 46, 3) := by decide +kernel
theorem own_pd4 : parseMethodDescriptor "(Ljava/lang/Object;)Z" = some ⟨[(.object "java/lang/Object")], some .boolean⟩ := by decide +kernel
theorem own_d_prog_9_method_4_35 : decode prog_9_method_4_code 35 = .ok (.ifCond .eq 9, 3) := by decide +kernel
theorem own_d_prog_9_method_4_38 : decode prog_9_method_4_code 38 = .ok (.aload 5, 2) := by decide +kernel
theorem own_d_prog_9_method_4_40 : decode prog_9_method_4_code 40 = .ok (.invokestatic 52, 3) := by decide +kernel
theorem own_pd5 : parseMethodDescriptor "(Ljava/lang/Object;)Ljava/util/Optional;" = some ⟨[(.object "java/lang/Object")], some (.object "java/util/Optional")⟩ := by decide +kernel
theorem own_d_prog_9_method_4_43 : decode prog_9_method_4_code 43 = .ok (.astore_n 1, 1) := by decide +kernel
theorem own_d_prog_9_method_4_44 : decode prog_9_method_4_code 44 = .ok (.iinc 4 1, 3) := by decide +kernel
theorem own_d_prog_9_method_4_47 : decode prog_9_method_4_code 47 = .ok (.goto (-33), 3) := by decide +kernel
theorem own_d_prog_9_method_4_50 : decode prog_9_method_4_code 50 = .ok (.aload_n 1, 1) := by decide +kernel
theorem own_d_prog_9_method_4_51 : decode prog_9_method_4_code 51 = .ok (.areturn, 1) := by decide +kernel
def Q_nd_OUT (Z : State) (o : Addr) (t1 : Addr) (kb : ClassId) (cs : List Int32) (a_OUT : Addr) (a__VALUES : Addr) (a_INP : Addr) (a_TAKE_COMPLETE : Addr) (a_OUT_text : Addr) (a_INP_text : Addr) (a_TAKE_COMPLETE_text : Addr) (a_OUT_text_value : Addr) (a_INP_text_value : Addr) (a_TAKE_COMPLETE_text_value : Addr) (a_EM : Addr) (k__VALUES : ClassId) (k_OUT_text_value : ClassId) (k_INP_text_value : ClassId) (k_TAKE_COMPLETE_text_value : ClassId) (cs0 : Int32) (h0 : Heap) (v_ : Option Value) (h : Heap) (L_ : List Loc) : Prop := ∃ (r : Addr), v_ = some (.ref r) ∧ Fr Z.heap.size L_ ∧ (Keep h0 h [] ∧ Exa Z h r "java/util/Optional" ∧ Fld Z h r "java/util/Optional" "value" "Ljava/lang/Object;" (.ref a_OUT))
set_option maxRecDepth 65536 in
set_option maxHeartbeats 40000000 in
theorem rm_nd_OUT (l : Launch) (Z : State) (a0 : Array Value) (hw : ∀ d ∈ tables_1, d.before a0 Z = true) (ws : List Jvm.Cond) (o : Addr) (t1 : Addr) (kb : ClassId) (cs : List Int32) (a_OUT : Addr) (a__VALUES : Addr) (a_INP : Addr) (a_TAKE_COMPLETE : Addr) (a_OUT_text : Addr) (a_INP_text : Addr) (a_TAKE_COMPLETE_text : Addr) (a_OUT_text_value : Addr) (a_INP_text_value : Addr) (a_TAKE_COMPLETE_text_value : Addr) (a_EM : Addr) (k__VALUES : ClassId) (k_OUT_text_value : ClassId) (k_INP_text_value : ClassId) (k_TAKE_COMPLETE_text_value : ClassId) (cs0 : Int32) (h0 : Heap) (O : Ext Z.heap h0) (w : own_W Z a_OUT a__VALUES a_INP a_TAKE_COMPLETE a_OUT_text a_INP_text a_TAKE_COMPLETE_text a_OUT_text_value a_INP_text_value a_TAKE_COMPLETE_text_value a_EM k__VALUES k_OUT_text_value k_INP_text_value k_TAKE_COMPLETE_text_value cs0) (Xo : Exa Z h0 o "java/lang/String") (Fv : Fld Z h0 o "java/lang/String" "value" "[B" (.ref t1)) (Fc : Fld Z h0 o "java/lang/String" "coder" "B" (.int 0)) (Fa : Arv Z h0 t1 kb .byte (Int32.ofNat cs.length) ((cs.map (fun c => c.toInt8.toInt32)).map Value.int) (.int 0)) (hp : ∀ c ∈ cs, ¬ c < 0 ∧ ¬ (255 : Int32) < c) (hl : cs.length ≤ 4000) (hq : cs = ([111, 117, 116] : List Int32)) :
    MetFree l (⟨"com/example/tuplebag/tuplebag/bench/Workload", "named", "(Ljava/lang/String;)Ljava/util/Optional;"⟩ : MethodName) (head1 (Jvm.Cond.code (⟨"com/example/tuplebag/tuplebag/bench/Workload", "named", "(Ljava/lang/String;)Ljava/util/Optional;"⟩ : MethodName) prog_9_method_4_code 6 (some (.object "java/util/Optional")) :: ws) ({ frames := 3, cells := 2, slots := 4, locals := 38 } : Room)) (fun a_ U_ => a_ = #[(.ref o)] ∧ Z.Warmed39 U_.vm ∧ U_.heap = h0) (fun _ _ _ _ _ => True) (fun _ U_ o_ U2_ => ∃ v_ L_, o_ = .returned v_ ∧ Q_nd_OUT Z o t1 kb cs a_OUT a__VALUES a_INP a_TAKE_COMPLETE a_OUT_text a_INP_text a_TAKE_COMPLETE_text a_OUT_text_value a_INP_text_value a_TAKE_COMPLETE_text_value a_EM k__VALUES k_OUT_text_value k_INP_text_value k_TAKE_COMPLETE_text_value cs0 h0 v_ U2_.heap L_ ∧ FrameEnd U_ o_ U2_ L_ ({ frames := 3, cells := 2, slots := 4, locals := 38 } : Room).cells ({ frames := 3, cells := 2, slots := 4, locals := 38 } : Room).slots) := by
  refine MetFree.of_bodySF (plainFor_of_name own_pn0) hisR ?_
  intro p e s m args below meth c s₁ Bd hml0 hP hK
  obtain ⟨rfl, hZ, hh⟩ := hP
  have hx := Bd.exec
  have hby := Bd.bytes
  have hml : c.maxLocals = 6 := hml0
  have hown : s.vm.findClass "com/example/tuplebag/tuplebag/bench/Workload" = some m.cls := findClass_of_methodNamed Bd.named
  have hnm := (name_of_methodNamed Bd.named Bd.method).1
  have X0 : Stand p l e ({ frames := 3, cells := 2, slots := 4, locals := 38 } : Room) s m #[(.ref o)] below meth c s₁ [] 0 0 := Stand.of_body Bd
  have e0 : s₁.heap = h0 := by rw [← hh, Bd.state]; rfl
  have N0 := Fr.nil Z.heap.size
  show own_G p e below (fun o_ s₂ => ∃ v_ L_, o_ = .returned v_ ∧ Q_nd_OUT Z o t1 kb cs a_OUT a__VALUES a_INP a_TAKE_COMPLETE a_OUT_text a_INP_text a_TAKE_COMPLETE_text a_OUT_text_value a_INP_text_value a_TAKE_COMPLETE_text_value a_EM k__VALUES k_OUT_text_value k_INP_text_value k_TAKE_COMPLETE_text_value cs0 h0 v_ s₂.heap L_ ∧ FrameEnd s o_ s₂ L_ ({ frames := 3, cells := 2, slots := 4, locals := 38 } : Room).cells ({ frames := 3, cells := 2, slots := 4, locals := 38 } : Room).slots) (s₁.setTop (entryFrame m #[(.ref o)] 6))
  refine own_go (s₁.setTop (mkF m 0 #[.val (.ref o), .unset, .unset, .unset, .unset, .unset] [])) (fun t_ k_ => castTop (own_ef_nd_OUT m o) k_) ?_
  have w' := w
  obtain ⟨S_OUT, X_OUT, S__VALUES, X__VALUES, S_INP, X_INP, S_TAKE_COMPLETE, X_TAKE_COMPLETE, F_OUT_text, X_OUT_text, F_INP_text, X_INP_text, F_TAKE_COMPLETE_text, X_TAKE_COMPLETE_text, F_OUT_text_value, F_INP_text_value, F_TAKE_COMPLETE_text_value, F_OUT_text_coder, F_INP_text_coder, F_TAKE_COMPLETE_text_coder, V__VALUES, V_OUT_text_value, V_INP_text_value, V_TAKE_COMPLETE_text_value, S_CS, n_CS, S_EM, X_EM, F_EM⟩ := w'
  have hbd := own_up cs hp
  have hcd := own_cod cs hp
  obtain ⟨_, _, ⟨T1, Lu1, ku1, nu1⟩, -, X1, ⟨Lc1, hQ1, lu1, yu1, zu1⟩, st1⟩ := Jvm.LawKit.callS X0 hx (y := (⟨"java/util/Optional", "empty", "()Ljava/util/Optional;"⟩ : MethodName)) hown (mvT hZ (hw _ (List.mem_of_getElem? (i := 20) rfl))) (mvT hZ (hw _ (List.mem_of_getElem? (i := 21) rfl))) (mvT hZ (hw _ (List.mem_of_getElem? (i := 22) rfl))) (mvT hZ (hw _ (List.mem_of_getElem? (i := 23) rfl))) (by decide) (backOf (W := 0) (rm_em l Z a0 hw [] (a_OUT) (a__VALUES) (a_INP) (a_TAKE_COMPLETE) (a_OUT_text) (a_INP_text) (a_TAKE_COMPLETE_text) (a_OUT_text_value) (a_INP_text_value) (a_TAKE_COMPLETE_text_value) (a_EM) (k__VALUES) (k_OUT_text_value) (k_INP_text_value) (k_TAKE_COMPLETE_text_value) (cs0) h0 O w) hZ (hw _ (List.mem_of_getElem? (i := 23) rfl)) (hw _ (List.mem_of_getElem? (i := 22) rfl)) (by decide) (by decide)) (g := (mkF m 0 #[.val (.ref o), .unset, .unset, .unset, .unset, .unset] [])) rfl (by rw [hml]; rfl) (argsL := []) (rest := []) (lenOf own_pd2 rfl) rfl (by show 2 * 0 + _ ≤ _; exact Nat.le_of_eq rfl) (hb hby own_d_prog_9_method_4_0) (fun _ _ => ⟨rfl, e0, (by decide : 0 + 0 ≤ _), (by decide : 0 + 0 ≤ _)⟩)
  dsimp only [Pt.U, Pt.locs, Pt.cells, Pt.slots] at X1 lu1 yu1 zu1 st1 hQ1
  subst lu1 yu1 zu1
  obtain ⟨rfl, N1q, e1⟩ := hQ1
  have N1 := Fr.app N0 N1q
  refine own_go (T1.setTop (mkF m 3 #[.val (.ref o), .unset, .unset, .unset, .unset, .unset] [(.ref a_EM)])) (fun t_ k_ => st1 _ k_) ?_
  refine own_go (T1.setTop (mkF m 4 #[.val (.ref o), .val (.ref a_EM), .unset, .unset, .unset, .unset] [])) (fun t_ k_ => XS.astoreN X1.here hx rfl (hb hby own_d_prog_9_method_4_3) rfl rfl (l' := #[.val (.ref o), .val (.ref a_EM), .unset, .unset, .unset, .unset]) rfl k_) ?_
  obtain ⟨_, _, ⟨T2, Lu2, ku2, nu2⟩, -, X2, ⟨Lc2, hQ2, lu2, yu2, zu2⟩, st2⟩ := Jvm.LawKit.callS X1 hx (y := (⟨"com/example/tuplebag/tuplebag/bench/Workload", "values", "()[Lcom/example/tuplebag/tuplebag/bench/Workload;"⟩ : MethodName)) hown (mvT hZ (hw _ (List.mem_of_getElem? (i := 25) rfl))) (mvT hZ (hw _ (List.mem_of_getElem? (i := 26) rfl))) (mvT hZ (hw _ (List.mem_of_getElem? (i := 15) rfl))) (mvT hZ (hw _ (List.mem_of_getElem? (i := 27) rfl))) (by decide) (backOf (W := 0) (rm_va l Z a0 hw [] (a_OUT) (a__VALUES) (a_INP) (a_TAKE_COMPLETE) (a_OUT_text) (a_INP_text) (a_TAKE_COMPLETE_text) (a_OUT_text_value) (a_INP_text_value) (a_TAKE_COMPLETE_text_value) (a_EM) (k__VALUES) (k_OUT_text_value) (k_INP_text_value) (k_TAKE_COMPLETE_text_value) (cs0) h0 O w) hZ (hw _ (List.mem_of_getElem? (i := 27) rfl)) (hw _ (List.mem_of_getElem? (i := 15) rfl)) (by decide) (by decide)) (g := (mkF m 4 #[.val (.ref o), .val (.ref a_EM), .unset, .unset, .unset, .unset] [])) rfl (by rw [hml]; rfl) (argsL := []) (rest := []) (lenOf own_pd3 rfl) rfl (by show 2 * 0 + _ ≤ _; exact Nat.le_of_eq rfl) (hb hby own_d_prog_9_method_4_4) (fun _ _ => ⟨rfl, e1, (by decide : 0 + 1 ≤ _), (by decide : 0 + 3 ≤ _)⟩)
  dsimp only [Pt.U, Pt.locs, Pt.cells, Pt.slots] at X2 lu2 yu2 zu2 st2 hQ2
  subst lu2 yu2 zu2
  obtain ⟨r2, rfl, N2q, K2q, V2q⟩ := hQ2
  have N2 := Fr.app N1 N2q
  have O2 := own_extK O K2q all0
  have KK2 : Keep h0 T2.heap [] := (Keep.refl h0 []).trans K2q all0
  refine own_go (T2.setTop (mkF m 7 #[.val (.ref o), .val (.ref a_EM), .unset, .unset, .unset, .unset] [(.ref r2)])) (fun t_ k_ => st2 _ k_) ?_
  refine own_go (T2.setTop (mkF m 8 #[.val (.ref o), .val (.ref a_EM), .val (.ref r2), .unset, .unset, .unset] [])) (fun t_ k_ => XS.astoreN X2.here hx rfl (hb hby own_d_prog_9_method_4_7) rfl rfl (l' := #[.val (.ref o), .val (.ref a_EM), .val (.ref r2), .unset, .unset, .unset]) rfl k_) ?_
  refine own_go (T2.setTop (mkF m 9 #[.val (.ref o), .val (.ref a_EM), .val (.ref r2), .unset, .unset, .unset] [(.ref r2)])) (fun t_ k_ => XS.aloadN X2.here hx rfl (hb hby own_d_prog_9_method_4_8) rfl rfl k_) ?_
  obtain ⟨cl3, Ar3, q3, Sz3, Nz3, Hz3, Gz3⟩ := id (V2q)
  refine own_go (T2.setTop (mkF m 10 #[.val (.ref o), .val (.ref a_EM), .val (.ref r2), .unset, .unset, .unset] [(.int (3 : Int32))])) (fun t_ k_ => X2.arraylength hx Ar3.1 (State.isArrayOf_alike hZ.alike Ar3.2.1) (g := (mkF m 9 #[.val (.ref o), .val (.ref a_EM), .val (.ref r2), .unset, .unset, .unset] [(.ref r2)])) rfl rfl (hb hby own_d_prog_9_method_4_9) _ (by rw [len_of Sz3 Nz3]; exact k_)) ?_
  refine own_go (T2.setTop (mkF m 11 #[.val (.ref o), .val (.ref a_EM), .val (.ref r2), .val (.int (3 : Int32)), .unset, .unset] [])) (fun t_ k_ => XS.istoreN X2.here hx rfl (hb hby own_d_prog_9_method_4_10) rfl (l' := #[.val (.ref o), .val (.ref a_EM), .val (.ref r2), .val (.int (3 : Int32)), .unset, .unset]) rfl k_) ?_
  refine own_go (T2.setTop (mkF m 12 #[.val (.ref o), .val (.ref a_EM), .val (.ref r2), .val (.int (3 : Int32)), .unset, .unset] [(.int (0 : Int32))])) (fun t_ k_ => XS.iconst X2.here hx rfl (hb hby own_d_prog_9_method_4_11) k_) ?_
  refine own_go (T2.setTop (mkF m 14 #[.val (.ref o), .val (.ref a_EM), .val (.ref r2), .val (.int (3 : Int32)), .val (.int (0 : Int32)), .unset] [])) (fun t_ k_ => XS.istore X2.here hx rfl (hb hby own_d_prog_9_method_4_12) rfl (l' := #[.val (.ref o), .val (.ref a_EM), .val (.ref r2), .val (.int (3 : Int32)), .val (.int (0 : Int32)), .unset]) rfl k_) ?_
  refine own_go (T2.setTop (mkF m 16 #[.val (.ref o), .val (.ref a_EM), .val (.ref r2), .val (.int (3 : Int32)), .val (.int (0 : Int32)), .unset] [(.int (0 : Int32))])) (fun t_ k_ => XS.iload X2.here hx rfl (hb hby own_d_prog_9_method_4_14) rfl k_) ?_
  refine own_go (T2.setTop (mkF m 17 #[.val (.ref o), .val (.ref a_EM), .val (.ref r2), .val (.int (3 : Int32)), .val (.int (0 : Int32)), .unset] [(.int (3 : Int32)), (.int (0 : Int32))])) (fun t_ k_ => XS.iloadN X2.here hx rfl (hb hby own_d_prog_9_method_4_16) rfl k_) ?_
  refine own_go (T2.setTop (mkF m 20 #[.val (.ref o), .val (.ref a_EM), .val (.ref r2), .val (.int (3 : Int32)), .val (.int (0 : Int32)), .unset] [])) (fun t_ k_ => XS.icmpNo X2.here hx rfl (hb hby own_d_prog_9_method_4_17) rfl (tlt (by decide : (0 : Int32) < (3 : Int32))).2.1 k_) ?_
  refine own_go (T2.setTop (mkF m 21 #[.val (.ref o), .val (.ref a_EM), .val (.ref r2), .val (.int (3 : Int32)), .val (.int (0 : Int32)), .unset] [(.ref r2)])) (fun t_ k_ => XS.aloadN X2.here hx rfl (hb hby own_d_prog_9_method_4_20) rfl rfl k_) ?_
  refine own_go (T2.setTop (mkF m 23 #[.val (.ref o), .val (.ref a_EM), .val (.ref r2), .val (.int (3 : Int32)), .val (.int (0 : Int32)), .unset] [(.int (0 : Int32)), (.ref r2)])) (fun t_ k_ => XS.iload X2.here hx rfl (hb hby own_d_prog_9_method_4_21) rfl k_) ?_
  obtain ⟨cl4, Ar4, q4, Sz4, Nz4, Hz4, Gz4⟩ := id (V2q)
  have hin4 : ¬ ((0 : Int32) < 0 ∨ cl4.slots.size ≤ ((0 : Int32)).toNatClampNeg) := inb_of Sz4 ⟨by decide, by decide⟩
  have hat4 : cl4.slots[((0 : Int32)).toNatClampNeg]? = some (.ref a_OUT) := Hz4.at hin4 rfl
  refine own_go (T2.setTop (mkF m 24 #[.val (.ref o), .val (.ref a_EM), .val (.ref r2), .val (.int (3 : Int32)), .val (.int (0 : Int32)), .unset] [(.ref a_OUT)])) (fun t_ k_ => X2.aaload hx (j := (0 : Int32)) (v := (.ref a_OUT)) Ar4.1 (State.isArrayOf_alike hZ.alike Ar4.2.1) rfl Ar4.2.2 hin4 hat4 (g := (mkF m 23 #[.val (.ref o), .val (.ref a_EM), .val (.ref r2), .val (.int (3 : Int32)), .val (.int (0 : Int32)), .unset] [(.int (0 : Int32)), (.ref r2)])) rfl rfl (hb hby own_d_prog_9_method_4_23) _ k_) ?_
  refine own_go (T2.setTop (mkF m 26 #[.val (.ref o), .val (.ref a_EM), .val (.ref r2), .val (.int (3 : Int32)), .val (.int (0 : Int32)), .val (.ref a_OUT)] [])) (fun t_ k_ => XS.astore X2.here hx rfl (hb hby own_d_prog_9_method_4_24) rfl rfl (l' := #[.val (.ref o), .val (.ref a_EM), .val (.ref r2), .val (.int (3 : Int32)), .val (.int (0 : Int32)), .val (.ref a_OUT)]) rfl k_) ?_
  refine own_go (T2.setTop (mkF m 28 #[.val (.ref o), .val (.ref a_EM), .val (.ref r2), .val (.int (3 : Int32)), .val (.int (0 : Int32)), .val (.ref a_OUT)] [(.ref a_OUT)])) (fun t_ k_ => XS.aload X2.here hx rfl (hb hby own_d_prog_9_method_4_26) rfl rfl k_) ?_
  obtain ⟨T5, X5, e5, st5⟩ := getF X2 hx hZ hown (host := "") (Or.inl (hw _ (List.mem_of_getElem? (i := 42) rfl))) Via.refl rfl (F_OUT_text.ext O2) (g := (mkF m 28 #[.val (.ref o), .val (.ref a_EM), .val (.ref r2), .val (.int (3 : Int32)), .val (.int (0 : Int32)), .val (.ref a_OUT)] [(.ref a_OUT)])) rfl rfl (hb hby own_d_prog_9_method_4_28)
  refine own_go (T5.setTop (mkF m 31 #[.val (.ref o), .val (.ref a_EM), .val (.ref r2), .val (.int (3 : Int32)), .val (.int (0 : Int32)), .val (.ref a_OUT)] [(.ref a_OUT_text)])) (fun t_ k_ => st5 _ k_) ?_
  refine own_go (T5.setTop (mkF m 32 #[.val (.ref o), .val (.ref a_EM), .val (.ref r2), .val (.int (3 : Int32)), .val (.int (0 : Int32)), .val (.ref a_OUT)] [(.ref o), (.ref a_OUT_text)])) (fun t_ k_ => XS.aloadN X5.here hx rfl (hb hby own_d_prog_9_method_4_31) rfl rfl k_) ?_
  have Fz7 := (Xo.keep K2q)
  have Fz8 := (Fv.keep K2q nin0)
  have Fz9 := (Fc.keep K2q nin0)
  have Fz10 := (Fa.keep K2q nin0)
  obtain ⟨cq6, kq6, q6a, q6b, q6c⟩ := isOf hZ e5 (X_OUT_text.ext O2)
  obtain ⟨_, _, ⟨T6, Lu6, ku6, nu6⟩, -, X6, ⟨Lc6, hQ6, lu6, yu6, zu6⟩, st6⟩ := X5.virtualBack hx (y := (⟨"java/lang/String", "equals", "(Ljava/lang/Object;)Z"⟩ : MethodName)) (z := (⟨"java/lang/String", "equals", "(Ljava/lang/Object;)Z"⟩ : MethodName)) hown (mvT hZ (hw _ (List.mem_of_getElem? (i := 44) rfl))) (mvT hZ (hw _ (List.mem_of_getElem? (i := 10) rfl))) (notFace_of_selects (args := #[]) (mvT hZ (hw _ (List.mem_of_getElem? (i := 12) rfl)))) (mvT hZ (hw _ (List.mem_of_getElem? (i := 12) rfl))) (mvT hZ (hw _ (List.mem_of_getElem? (i := 11) rfl))) (by decide) (StrChars.Road.eqW (W := 0) hZ (fun d hd => hw d (own_wordsEq d hd)) (kI := 4) (hw _ (List.mem_of_getElem? (i := 3) rfl)) (X_OUT_text.ext O2) (F_OUT_text_value.ext O2) (F_OUT_text_coder.ext O2) (V_OUT_text_value.ext O2) (cs := ([111, 117, 116] : List Int32)) (own_cod ([111, 117, 116] : List Int32) own_hp_OUT) (own_up _ own_hp_OUT) (by decide) Fz7 Fz8 Fz9 Fz10 hcd hbd hl (S_CS.ext O2) n_CS (by decide) (by decide)) q6a q6c (g := (mkF m 32 #[.val (.ref o), .val (.ref a_EM), .val (.ref r2), .val (.int (3 : Int32)), .val (.int (0 : Int32)), .val (.ref a_OUT)] [(.ref o), (.ref a_OUT_text)])) rfl (by rw [hml]; rfl) (Steps.refl _) (argsL := [(.ref o)]) (rest := []) (lenOf own_pd4 rfl) rfl (by show 2 * 0 + _ ≤ _; exact Nat.le_of_eq rfl) (hb hby own_d_prog_9_method_4_32) (fun _ _ => ⟨rfl, e5, (by decide : 1 + 0 ≤ _), (by decide : 3 + 0 ≤ _)⟩)
  dsimp only [Pt.U, Pt.locs, Pt.cells, Pt.slots] at X6 lu6 yu6 zu6 st6 hQ6
  subst lu6 yu6 zu6
  obtain ⟨hcase6, rfl, e6⟩ := hQ6
  have N6q : Fr Z.heap.size ([] : List Loc) := Fr.nil _
  have N6 := Fr.app N2 N6q
  have hv6 := hcase6.elim (fun q => q.1) (fun q => absurd (hq.symm) q.2)
  subst hv6
  refine own_go (T6.setTop (mkF m 35 #[.val (.ref o), .val (.ref a_EM), .val (.ref r2), .val (.int (3 : Int32)), .val (.int (0 : Int32)), .val (.ref a_OUT)] [(.int (1 : Int32))])) (fun t_ k_ => st6.trans k_) ?_
  refine own_go (T6.setTop (mkF m 38 #[.val (.ref o), .val (.ref a_EM), .val (.ref r2), .val (.int (3 : Int32)), .val (.int (0 : Int32)), .val (.ref a_OUT)] [])) (fun t_ k_ => XS.ifNo X6.here hx rfl (hb hby own_d_prog_9_method_4_35) rfl ((if0 _ _).trans (feq (by decide : ¬ ((1 : Int32) = (0 : Int32)))).1) k_) ?_
  refine own_go (T6.setTop (mkF m 40 #[.val (.ref o), .val (.ref a_EM), .val (.ref r2), .val (.int (3 : Int32)), .val (.int (0 : Int32)), .val (.ref a_OUT)] [(.ref a_OUT)])) (fun t_ k_ => XS.aload X6.here hx rfl (hb hby own_d_prog_9_method_4_38) rfl rfl k_) ?_
  obtain ⟨_, _, ⟨T11, Lu11, ku11, nu11⟩, -, X11, ⟨Lc11, hQ11, lu11, yu11, zu11⟩, st11⟩ := Jvm.LawKit.callS X6 hx (y := (⟨"java/util/Optional", "of", "(Ljava/lang/Object;)Ljava/util/Optional;"⟩ : MethodName)) hown (mvT hZ (hw _ (List.mem_of_getElem? (i := 54) rfl))) (mvT hZ (hw _ (List.mem_of_getElem? (i := 55) rfl))) (mvT hZ (hw _ (List.mem_of_getElem? (i := 22) rfl))) (mvT hZ (hw _ (List.mem_of_getElem? (i := 56) rfl))) (by decide) (backOf (W := 0) (rm_oo l Z a0 hw [] (a_OUT) T2.heap O2 ) hZ (hw _ (List.mem_of_getElem? (i := 56) rfl)) (hw _ (List.mem_of_getElem? (i := 22) rfl)) (by decide) (by decide)) (g := (mkF m 40 #[.val (.ref o), .val (.ref a_EM), .val (.ref r2), .val (.int (3 : Int32)), .val (.int (0 : Int32)), .val (.ref a_OUT)] [(.ref a_OUT)])) rfl (by rw [hml]; rfl) (argsL := [(.ref a_OUT)]) (rest := []) (lenOf own_pd5 rfl) rfl (by show 2 * 0 + _ ≤ _; exact Nat.le_of_eq rfl) (hb hby own_d_prog_9_method_4_40) (fun _ _ => ⟨rfl, e6, (by decide : 1 + 1 ≤ _), (by decide : 3 + 1 ≤ _)⟩)
  dsimp only [Pt.U, Pt.locs, Pt.cells, Pt.slots] at X11 lu11 yu11 zu11 st11 hQ11
  subst lu11 yu11 zu11
  obtain ⟨r11, rfl, N11q, K11q, X11q, F11q⟩ := hQ11
  have N11 := Fr.app N6 N11q
  have O11 := own_extK O2 K11q all0
  have KK11 : Keep h0 T11.heap [] := KK2.trans K11q all0
  refine own_go (T11.setTop (mkF m 43 #[.val (.ref o), .val (.ref a_EM), .val (.ref r2), .val (.int (3 : Int32)), .val (.int (0 : Int32)), .val (.ref a_OUT)] [(.ref r11)])) (fun t_ k_ => st11 _ k_) ?_
  refine own_go (T11.setTop (mkF m 44 #[.val (.ref o), .val (.ref r11), .val (.ref r2), .val (.int (3 : Int32)), .val (.int (0 : Int32)), .val (.ref a_OUT)] [])) (fun t_ k_ => XS.astoreN X11.here hx rfl (hb hby own_d_prog_9_method_4_43) rfl rfl (l' := #[.val (.ref o), .val (.ref r11), .val (.ref r2), .val (.int (3 : Int32)), .val (.int (0 : Int32)), .val (.ref a_OUT)]) rfl k_) ?_
  refine own_go (T11.setTop (mkF m 47 #[.val (.ref o), .val (.ref r11), .val (.ref r2), .val (.int (3 : Int32)), .val (.int ((0 : Int32) + (1 : Int32))), .val (.ref a_OUT)] [])) (fun t_ k_ => XS.iinc X11.here hx rfl (hb hby own_d_prog_9_method_4_44) rfl (l' := #[.val (.ref o), .val (.ref r11), .val (.ref r2), .val (.int (3 : Int32)), .val (.int ((0 : Int32) + (1 : Int32))), .val (.ref a_OUT)]) rfl k_) ?_
  rw [show ((0 : Int32) + (1 : Int32)) = (1 : Int32) from by decide]
  refine own_go (T11.setTop (mkF m 14 #[.val (.ref o), .val (.ref r11), .val (.ref r2), .val (.int (3 : Int32)), .val (.int (1 : Int32)), .val (.ref a_OUT)] [])) (fun t_ k_ => XS.goto X11.here hx rfl (pc0 := 47) (pc' := 14) rfl (hb hby own_d_prog_9_method_4_47) (by decide) (by decide) k_) ?_
  refine own_go (T11.setTop (mkF m 16 #[.val (.ref o), .val (.ref r11), .val (.ref r2), .val (.int (3 : Int32)), .val (.int (1 : Int32)), .val (.ref a_OUT)] [(.int (1 : Int32))])) (fun t_ k_ => XS.iload X11.here hx rfl (hb hby own_d_prog_9_method_4_14) rfl k_) ?_
  refine own_go (T11.setTop (mkF m 17 #[.val (.ref o), .val (.ref r11), .val (.ref r2), .val (.int (3 : Int32)), .val (.int (1 : Int32)), .val (.ref a_OUT)] [(.int (3 : Int32)), (.int (1 : Int32))])) (fun t_ k_ => XS.iloadN X11.here hx rfl (hb hby own_d_prog_9_method_4_16) rfl k_) ?_
  refine own_go (T11.setTop (mkF m 20 #[.val (.ref o), .val (.ref r11), .val (.ref r2), .val (.int (3 : Int32)), .val (.int (1 : Int32)), .val (.ref a_OUT)] [])) (fun t_ k_ => XS.icmpNo X11.here hx rfl (hb hby own_d_prog_9_method_4_17) rfl (tlt (by decide : (1 : Int32) < (3 : Int32))).2.1 k_) ?_
  refine own_go (T11.setTop (mkF m 21 #[.val (.ref o), .val (.ref r11), .val (.ref r2), .val (.int (3 : Int32)), .val (.int (1 : Int32)), .val (.ref a_OUT)] [(.ref r2)])) (fun t_ k_ => XS.aloadN X11.here hx rfl (hb hby own_d_prog_9_method_4_20) rfl rfl k_) ?_
  refine own_go (T11.setTop (mkF m 23 #[.val (.ref o), .val (.ref r11), .val (.ref r2), .val (.int (3 : Int32)), .val (.int (1 : Int32)), .val (.ref a_OUT)] [(.int (1 : Int32)), (.ref r2)])) (fun t_ k_ => XS.iload X11.here hx rfl (hb hby own_d_prog_9_method_4_21) rfl k_) ?_
  have Fz13 := (V2q.keep K11q nin0)
  obtain ⟨cl12, Ar12, q12, Sz12, Nz12, Hz12, Gz12⟩ := id (Fz13)
  have hin12 : ¬ ((1 : Int32) < 0 ∨ cl12.slots.size ≤ ((1 : Int32)).toNatClampNeg) := inb_of Sz12 ⟨by decide, by decide⟩
  have hat12 : cl12.slots[((1 : Int32)).toNatClampNeg]? = some (.ref a_INP) := Hz12.at hin12 rfl
  refine own_go (T11.setTop (mkF m 24 #[.val (.ref o), .val (.ref r11), .val (.ref r2), .val (.int (3 : Int32)), .val (.int (1 : Int32)), .val (.ref a_OUT)] [(.ref a_INP)])) (fun t_ k_ => X11.aaload hx (j := (1 : Int32)) (v := (.ref a_INP)) Ar12.1 (State.isArrayOf_alike hZ.alike Ar12.2.1) rfl Ar12.2.2 hin12 hat12 (g := (mkF m 23 #[.val (.ref o), .val (.ref r11), .val (.ref r2), .val (.int (3 : Int32)), .val (.int (1 : Int32)), .val (.ref a_OUT)] [(.int (1 : Int32)), (.ref r2)])) rfl rfl (hb hby own_d_prog_9_method_4_23) _ k_) ?_
  refine own_go (T11.setTop (mkF m 26 #[.val (.ref o), .val (.ref r11), .val (.ref r2), .val (.int (3 : Int32)), .val (.int (1 : Int32)), .val (.ref a_INP)] [])) (fun t_ k_ => XS.astore X11.here hx rfl (hb hby own_d_prog_9_method_4_24) rfl rfl (l' := #[.val (.ref o), .val (.ref r11), .val (.ref r2), .val (.int (3 : Int32)), .val (.int (1 : Int32)), .val (.ref a_INP)]) rfl k_) ?_
  refine own_go (T11.setTop (mkF m 28 #[.val (.ref o), .val (.ref r11), .val (.ref r2), .val (.int (3 : Int32)), .val (.int (1 : Int32)), .val (.ref a_INP)] [(.ref a_INP)])) (fun t_ k_ => XS.aload X11.here hx rfl (hb hby own_d_prog_9_method_4_26) rfl rfl k_) ?_
  obtain ⟨T14, X14, e14, st14⟩ := getF X11 hx hZ hown (host := "") (Or.inl (hw _ (List.mem_of_getElem? (i := 42) rfl))) Via.refl rfl (F_INP_text.ext O11) (g := (mkF m 28 #[.val (.ref o), .val (.ref r11), .val (.ref r2), .val (.int (3 : Int32)), .val (.int (1 : Int32)), .val (.ref a_INP)] [(.ref a_INP)])) rfl rfl (hb hby own_d_prog_9_method_4_28)
  refine own_go (T14.setTop (mkF m 31 #[.val (.ref o), .val (.ref r11), .val (.ref r2), .val (.int (3 : Int32)), .val (.int (1 : Int32)), .val (.ref a_INP)] [(.ref a_INP_text)])) (fun t_ k_ => st14 _ k_) ?_
  refine own_go (T14.setTop (mkF m 32 #[.val (.ref o), .val (.ref r11), .val (.ref r2), .val (.int (3 : Int32)), .val (.int (1 : Int32)), .val (.ref a_INP)] [(.ref o), (.ref a_INP_text)])) (fun t_ k_ => XS.aloadN X14.here hx rfl (hb hby own_d_prog_9_method_4_31) rfl rfl k_) ?_
  have Fz16 := (Fz7.keep K11q)
  have Fz17 := (Fz8.keep K11q nin0)
  have Fz18 := (Fz9.keep K11q nin0)
  have Fz19 := (Fz10.keep K11q nin0)
  obtain ⟨cq15, kq15, q15a, q15b, q15c⟩ := isOf hZ e14 (X_INP_text.ext O11)
  obtain ⟨_, _, ⟨T15, Lu15, ku15, nu15⟩, -, X15, ⟨Lc15, hQ15, lu15, yu15, zu15⟩, st15⟩ := X14.virtualBack hx (y := (⟨"java/lang/String", "equals", "(Ljava/lang/Object;)Z"⟩ : MethodName)) (z := (⟨"java/lang/String", "equals", "(Ljava/lang/Object;)Z"⟩ : MethodName)) hown (mvT hZ (hw _ (List.mem_of_getElem? (i := 44) rfl))) (mvT hZ (hw _ (List.mem_of_getElem? (i := 10) rfl))) (notFace_of_selects (args := #[]) (mvT hZ (hw _ (List.mem_of_getElem? (i := 12) rfl)))) (mvT hZ (hw _ (List.mem_of_getElem? (i := 12) rfl))) (mvT hZ (hw _ (List.mem_of_getElem? (i := 11) rfl))) (by decide) (StrChars.Road.eqW (W := 0) hZ (fun d hd => hw d (own_wordsEq d hd)) (kI := 4) (hw _ (List.mem_of_getElem? (i := 3) rfl)) (X_INP_text.ext O11) (F_INP_text_value.ext O11) (F_INP_text_coder.ext O11) (V_INP_text_value.ext O11) (cs := ([105, 110, 112] : List Int32)) (own_cod ([105, 110, 112] : List Int32) own_hp_INP) (own_up _ own_hp_INP) (by decide) Fz16 Fz17 Fz18 Fz19 hcd hbd hl (S_CS.ext O11) n_CS (by decide) (by decide)) q15a q15c (g := (mkF m 32 #[.val (.ref o), .val (.ref r11), .val (.ref r2), .val (.int (3 : Int32)), .val (.int (1 : Int32)), .val (.ref a_INP)] [(.ref o), (.ref a_INP_text)])) rfl (by rw [hml]; rfl) (Steps.refl _) (argsL := [(.ref o)]) (rest := []) (lenOf own_pd4 rfl) rfl (by show 2 * 0 + _ ≤ _; exact Nat.le_of_eq rfl) (hb hby own_d_prog_9_method_4_32) (fun _ _ => ⟨rfl, e14, (by decide : 2 + 0 ≤ _), (by decide : 4 + 0 ≤ _)⟩)
  dsimp only [Pt.U, Pt.locs, Pt.cells, Pt.slots] at X15 lu15 yu15 zu15 st15 hQ15
  subst lu15 yu15 zu15
  obtain ⟨hcase15, rfl, e15⟩ := hQ15
  have N15q : Fr Z.heap.size ([] : List Loc) := Fr.nil _
  have N15 := Fr.app N11 N15q
  have hv15 := hcase15.elim (fun q => absurd q.2 (by rw [hq] <;> decide)) (fun q => q.1)
  subst hv15
  refine own_go (T15.setTop (mkF m 35 #[.val (.ref o), .val (.ref r11), .val (.ref r2), .val (.int (3 : Int32)), .val (.int (1 : Int32)), .val (.ref a_INP)] [(.int (0 : Int32))])) (fun t_ k_ => st15.trans k_) ?_
  refine own_go (T15.setTop (mkF m 44 #[.val (.ref o), .val (.ref r11), .val (.ref r2), .val (.int (3 : Int32)), .val (.int (1 : Int32)), .val (.ref a_INP)] [])) (fun t_ k_ => XS.ifYes X15.here hx rfl (pc0 := 35) (pc' := 44) rfl (hb hby own_d_prog_9_method_4_35) rfl ((if0 _ _).trans (teq (by decide : (0 : Int32) = (0 : Int32))).1) (by decide) (by decide) k_) ?_
  refine own_go (T15.setTop (mkF m 47 #[.val (.ref o), .val (.ref r11), .val (.ref r2), .val (.int (3 : Int32)), .val (.int ((1 : Int32) + (1 : Int32))), .val (.ref a_INP)] [])) (fun t_ k_ => XS.iinc X15.here hx rfl (hb hby own_d_prog_9_method_4_44) rfl (l' := #[.val (.ref o), .val (.ref r11), .val (.ref r2), .val (.int (3 : Int32)), .val (.int ((1 : Int32) + (1 : Int32))), .val (.ref a_INP)]) rfl k_) ?_
  rw [show ((1 : Int32) + (1 : Int32)) = (2 : Int32) from by decide]
  refine own_go (T15.setTop (mkF m 14 #[.val (.ref o), .val (.ref r11), .val (.ref r2), .val (.int (3 : Int32)), .val (.int (2 : Int32)), .val (.ref a_INP)] [])) (fun t_ k_ => XS.goto X15.here hx rfl (pc0 := 47) (pc' := 14) rfl (hb hby own_d_prog_9_method_4_47) (by decide) (by decide) k_) ?_
  refine own_go (T15.setTop (mkF m 16 #[.val (.ref o), .val (.ref r11), .val (.ref r2), .val (.int (3 : Int32)), .val (.int (2 : Int32)), .val (.ref a_INP)] [(.int (2 : Int32))])) (fun t_ k_ => XS.iload X15.here hx rfl (hb hby own_d_prog_9_method_4_14) rfl k_) ?_
  refine own_go (T15.setTop (mkF m 17 #[.val (.ref o), .val (.ref r11), .val (.ref r2), .val (.int (3 : Int32)), .val (.int (2 : Int32)), .val (.ref a_INP)] [(.int (3 : Int32)), (.int (2 : Int32))])) (fun t_ k_ => XS.iloadN X15.here hx rfl (hb hby own_d_prog_9_method_4_16) rfl k_) ?_
  refine own_go (T15.setTop (mkF m 20 #[.val (.ref o), .val (.ref r11), .val (.ref r2), .val (.int (3 : Int32)), .val (.int (2 : Int32)), .val (.ref a_INP)] [])) (fun t_ k_ => XS.icmpNo X15.here hx rfl (hb hby own_d_prog_9_method_4_17) rfl (tlt (by decide : (2 : Int32) < (3 : Int32))).2.1 k_) ?_
  refine own_go (T15.setTop (mkF m 21 #[.val (.ref o), .val (.ref r11), .val (.ref r2), .val (.int (3 : Int32)), .val (.int (2 : Int32)), .val (.ref a_INP)] [(.ref r2)])) (fun t_ k_ => XS.aloadN X15.here hx rfl (hb hby own_d_prog_9_method_4_20) rfl rfl k_) ?_
  refine own_go (T15.setTop (mkF m 23 #[.val (.ref o), .val (.ref r11), .val (.ref r2), .val (.int (3 : Int32)), .val (.int (2 : Int32)), .val (.ref a_INP)] [(.int (2 : Int32)), (.ref r2)])) (fun t_ k_ => XS.iload X15.here hx rfl (hb hby own_d_prog_9_method_4_21) rfl k_) ?_
  obtain ⟨cl20, Ar20, q20, Sz20, Nz20, Hz20, Gz20⟩ := id (Fz13)
  have hin20 : ¬ ((2 : Int32) < 0 ∨ cl20.slots.size ≤ ((2 : Int32)).toNatClampNeg) := inb_of Sz20 ⟨by decide, by decide⟩
  have hat20 : cl20.slots[((2 : Int32)).toNatClampNeg]? = some (.ref a_TAKE_COMPLETE) := Hz20.at hin20 rfl
  refine own_go (T15.setTop (mkF m 24 #[.val (.ref o), .val (.ref r11), .val (.ref r2), .val (.int (3 : Int32)), .val (.int (2 : Int32)), .val (.ref a_INP)] [(.ref a_TAKE_COMPLETE)])) (fun t_ k_ => X15.aaload hx (j := (2 : Int32)) (v := (.ref a_TAKE_COMPLETE)) (by rw [e15]; exact Ar20.1) (State.isArrayOf_alike hZ.alike Ar20.2.1) rfl Ar20.2.2 hin20 hat20 (g := (mkF m 23 #[.val (.ref o), .val (.ref r11), .val (.ref r2), .val (.int (3 : Int32)), .val (.int (2 : Int32)), .val (.ref a_INP)] [(.int (2 : Int32)), (.ref r2)])) rfl rfl (hb hby own_d_prog_9_method_4_23) _ k_) ?_
  refine own_go (T15.setTop (mkF m 26 #[.val (.ref o), .val (.ref r11), .val (.ref r2), .val (.int (3 : Int32)), .val (.int (2 : Int32)), .val (.ref a_TAKE_COMPLETE)] [])) (fun t_ k_ => XS.astore X15.here hx rfl (hb hby own_d_prog_9_method_4_24) rfl rfl (l' := #[.val (.ref o), .val (.ref r11), .val (.ref r2), .val (.int (3 : Int32)), .val (.int (2 : Int32)), .val (.ref a_TAKE_COMPLETE)]) rfl k_) ?_
  refine own_go (T15.setTop (mkF m 28 #[.val (.ref o), .val (.ref r11), .val (.ref r2), .val (.int (3 : Int32)), .val (.int (2 : Int32)), .val (.ref a_TAKE_COMPLETE)] [(.ref a_TAKE_COMPLETE)])) (fun t_ k_ => XS.aload X15.here hx rfl (hb hby own_d_prog_9_method_4_26) rfl rfl k_) ?_
  obtain ⟨T21, X21, e21, st21⟩ := getF X15 hx hZ hown (host := "") (Or.inl (hw _ (List.mem_of_getElem? (i := 42) rfl))) Via.refl e15 (F_TAKE_COMPLETE_text.ext O11) (g := (mkF m 28 #[.val (.ref o), .val (.ref r11), .val (.ref r2), .val (.int (3 : Int32)), .val (.int (2 : Int32)), .val (.ref a_TAKE_COMPLETE)] [(.ref a_TAKE_COMPLETE)])) rfl rfl (hb hby own_d_prog_9_method_4_28)
  refine own_go (T21.setTop (mkF m 31 #[.val (.ref o), .val (.ref r11), .val (.ref r2), .val (.int (3 : Int32)), .val (.int (2 : Int32)), .val (.ref a_TAKE_COMPLETE)] [(.ref a_TAKE_COMPLETE_text)])) (fun t_ k_ => st21 _ k_) ?_
  refine own_go (T21.setTop (mkF m 32 #[.val (.ref o), .val (.ref r11), .val (.ref r2), .val (.int (3 : Int32)), .val (.int (2 : Int32)), .val (.ref a_TAKE_COMPLETE)] [(.ref o), (.ref a_TAKE_COMPLETE_text)])) (fun t_ k_ => XS.aloadN X21.here hx rfl (hb hby own_d_prog_9_method_4_31) rfl rfl k_) ?_
  obtain ⟨cq22, kq22, q22a, q22b, q22c⟩ := isOf hZ e21 (X_TAKE_COMPLETE_text.ext O11)
  obtain ⟨_, _, ⟨T22, Lu22, ku22, nu22⟩, -, X22, ⟨Lc22, hQ22, lu22, yu22, zu22⟩, st22⟩ := X21.virtualBack hx (y := (⟨"java/lang/String", "equals", "(Ljava/lang/Object;)Z"⟩ : MethodName)) (z := (⟨"java/lang/String", "equals", "(Ljava/lang/Object;)Z"⟩ : MethodName)) hown (mvT hZ (hw _ (List.mem_of_getElem? (i := 44) rfl))) (mvT hZ (hw _ (List.mem_of_getElem? (i := 10) rfl))) (notFace_of_selects (args := #[]) (mvT hZ (hw _ (List.mem_of_getElem? (i := 12) rfl)))) (mvT hZ (hw _ (List.mem_of_getElem? (i := 12) rfl))) (mvT hZ (hw _ (List.mem_of_getElem? (i := 11) rfl))) (by decide) (StrChars.Road.eqW (W := 0) hZ (fun d hd => hw d (own_wordsEq d hd)) (kI := 4) (hw _ (List.mem_of_getElem? (i := 3) rfl)) (X_TAKE_COMPLETE_text.ext O11) (F_TAKE_COMPLETE_text_value.ext O11) (F_TAKE_COMPLETE_text_coder.ext O11) (V_TAKE_COMPLETE_text_value.ext O11) (cs := ([116, 97, 107, 101, 45, 99, 111, 109, 112, 108, 101, 116, 101] : List Int32)) (own_cod ([116, 97, 107, 101, 45, 99, 111, 109, 112, 108, 101, 116, 101] : List Int32) own_hp_TAKE_COMPLETE) (own_up _ own_hp_TAKE_COMPLETE) (by decide) Fz16 Fz17 Fz18 Fz19 hcd hbd hl (S_CS.ext O11) n_CS (by decide) (by decide)) q22a q22c (g := (mkF m 32 #[.val (.ref o), .val (.ref r11), .val (.ref r2), .val (.int (3 : Int32)), .val (.int (2 : Int32)), .val (.ref a_TAKE_COMPLETE)] [(.ref o), (.ref a_TAKE_COMPLETE_text)])) rfl (by rw [hml]; rfl) (Steps.refl _) (argsL := [(.ref o)]) (rest := []) (lenOf own_pd4 rfl) rfl (by show 2 * 0 + _ ≤ _; exact Nat.le_of_eq rfl) (hb hby own_d_prog_9_method_4_32) (fun _ _ => ⟨rfl, e21, (by decide : 2 + 0 ≤ _), (by decide : 4 + 0 ≤ _)⟩)
  dsimp only [Pt.U, Pt.locs, Pt.cells, Pt.slots] at X22 lu22 yu22 zu22 st22 hQ22
  subst lu22 yu22 zu22
  obtain ⟨hcase22, rfl, e22⟩ := hQ22
  have N22q : Fr Z.heap.size ([] : List Loc) := Fr.nil _
  have N22 := Fr.app N15 N22q
  have hv22 := hcase22.elim (fun q => absurd q.2 (by rw [hq] <;> decide)) (fun q => q.1)
  subst hv22
  refine own_go (T22.setTop (mkF m 35 #[.val (.ref o), .val (.ref r11), .val (.ref r2), .val (.int (3 : Int32)), .val (.int (2 : Int32)), .val (.ref a_TAKE_COMPLETE)] [(.int (0 : Int32))])) (fun t_ k_ => st22.trans k_) ?_
  refine own_go (T22.setTop (mkF m 44 #[.val (.ref o), .val (.ref r11), .val (.ref r2), .val (.int (3 : Int32)), .val (.int (2 : Int32)), .val (.ref a_TAKE_COMPLETE)] [])) (fun t_ k_ => XS.ifYes X22.here hx rfl (pc0 := 35) (pc' := 44) rfl (hb hby own_d_prog_9_method_4_35) rfl ((if0 _ _).trans (teq (by decide : (0 : Int32) = (0 : Int32))).1) (by decide) (by decide) k_) ?_
  refine own_go (T22.setTop (mkF m 47 #[.val (.ref o), .val (.ref r11), .val (.ref r2), .val (.int (3 : Int32)), .val (.int ((2 : Int32) + (1 : Int32))), .val (.ref a_TAKE_COMPLETE)] [])) (fun t_ k_ => XS.iinc X22.here hx rfl (hb hby own_d_prog_9_method_4_44) rfl (l' := #[.val (.ref o), .val (.ref r11), .val (.ref r2), .val (.int (3 : Int32)), .val (.int ((2 : Int32) + (1 : Int32))), .val (.ref a_TAKE_COMPLETE)]) rfl k_) ?_
  rw [show ((2 : Int32) + (1 : Int32)) = (3 : Int32) from by decide]
  refine own_go (T22.setTop (mkF m 14 #[.val (.ref o), .val (.ref r11), .val (.ref r2), .val (.int (3 : Int32)), .val (.int (3 : Int32)), .val (.ref a_TAKE_COMPLETE)] [])) (fun t_ k_ => XS.goto X22.here hx rfl (pc0 := 47) (pc' := 14) rfl (hb hby own_d_prog_9_method_4_47) (by decide) (by decide) k_) ?_
  refine own_go (T22.setTop (mkF m 16 #[.val (.ref o), .val (.ref r11), .val (.ref r2), .val (.int (3 : Int32)), .val (.int (3 : Int32)), .val (.ref a_TAKE_COMPLETE)] [(.int (3 : Int32))])) (fun t_ k_ => XS.iload X22.here hx rfl (hb hby own_d_prog_9_method_4_14) rfl k_) ?_
  refine own_go (T22.setTop (mkF m 17 #[.val (.ref o), .val (.ref r11), .val (.ref r2), .val (.int (3 : Int32)), .val (.int (3 : Int32)), .val (.ref a_TAKE_COMPLETE)] [(.int (3 : Int32)), (.int (3 : Int32))])) (fun t_ k_ => XS.iloadN X22.here hx rfl (hb hby own_d_prog_9_method_4_16) rfl k_) ?_
  refine own_go (T22.setTop (mkF m 50 #[.val (.ref o), .val (.ref r11), .val (.ref r2), .val (.int (3 : Int32)), .val (.int (3 : Int32)), .val (.ref a_TAKE_COMPLETE)] [])) (fun t_ k_ => XS.icmpYes X22.here hx rfl (pc0 := 17) (pc' := 50) rfl (hb hby own_d_prog_9_method_4_17) rfl (flt (by decide : ¬ ((3 : Int32) < (3 : Int32)))).2.1 (by decide) (by decide) k_) ?_
  refine own_go (T22.setTop (mkF m 51 #[.val (.ref o), .val (.ref r11), .val (.ref r2), .val (.int (3 : Int32)), .val (.int (3 : Int32)), .val (.ref a_TAKE_COMPLETE)] [(.ref r11)])) (fun t_ k_ => XS.aloadN X22.here hx rfl (hb hby own_d_prog_9_method_4_50) rfl rfl k_) ?_
  obtain ⟨fs, hr, hrun, hended, hW, hsame⟩ := X22.leave (v := some (.ref r11)) (fun h => by rw [Bd.returns] at h; cases h)
  refine ⟨_, _, Jvm.RoadKit.retOut X22 hx Bd.returns rfl (Or.inr (Or.inr (Or.inr (Or.inr ⟨rfl, rfl, rfl⟩)))) (hb hby own_d_prog_9_method_4_51) hr, hrun, hended, _, _, rfl, ?_, ⟨_, rfl⟩, hW, hsame.mono (by decide) (by decide)⟩
  show Q_nd_OUT Z o t1 kb cs a_OUT a__VALUES a_INP a_TAKE_COMPLETE a_OUT_text a_INP_text a_TAKE_COMPLETE_text a_OUT_text_value a_INP_text_value a_TAKE_COMPLETE_text_value a_EM k__VALUES k_OUT_text_value k_INP_text_value k_TAKE_COMPLETE_text_value cs0 h0 _ T22.heap _
  rw [show T22.heap = T11.heap from e22]
  exact ⟨_, rfl, N22, KK11, X11q, F11q⟩
theorem own_ef_nd_INP (m : MethodId) (o : Addr) : entryFrame m #[(.ref o)] 6 = mkF m 0 #[.val (.ref o), .unset, .unset, .unset, .unset, .unset] [] := by first | (simp [entryFrame, mkF, argsToLocals, Value.category]; done) | rfl
def Q_nd_INP (Z : State) (o : Addr) (t1 : Addr) (kb : ClassId) (cs : List Int32) (a_OUT : Addr) (a__VALUES : Addr) (a_INP : Addr) (a_TAKE_COMPLETE : Addr) (a_OUT_text : Addr) (a_INP_text : Addr) (a_TAKE_COMPLETE_text : Addr) (a_OUT_text_value : Addr) (a_INP_text_value : Addr) (a_TAKE_COMPLETE_text_value : Addr) (a_EM : Addr) (k__VALUES : ClassId) (k_OUT_text_value : ClassId) (k_INP_text_value : ClassId) (k_TAKE_COMPLETE_text_value : ClassId) (cs0 : Int32) (h0 : Heap) (v_ : Option Value) (h : Heap) (L_ : List Loc) : Prop := ∃ (r : Addr), v_ = some (.ref r) ∧ Fr Z.heap.size L_ ∧ (Keep h0 h [] ∧ Exa Z h r "java/util/Optional" ∧ Fld Z h r "java/util/Optional" "value" "Ljava/lang/Object;" (.ref a_INP))
set_option maxRecDepth 65536 in
set_option maxHeartbeats 40000000 in
theorem rm_nd_INP (l : Launch) (Z : State) (a0 : Array Value) (hw : ∀ d ∈ tables_1, d.before a0 Z = true) (ws : List Jvm.Cond) (o : Addr) (t1 : Addr) (kb : ClassId) (cs : List Int32) (a_OUT : Addr) (a__VALUES : Addr) (a_INP : Addr) (a_TAKE_COMPLETE : Addr) (a_OUT_text : Addr) (a_INP_text : Addr) (a_TAKE_COMPLETE_text : Addr) (a_OUT_text_value : Addr) (a_INP_text_value : Addr) (a_TAKE_COMPLETE_text_value : Addr) (a_EM : Addr) (k__VALUES : ClassId) (k_OUT_text_value : ClassId) (k_INP_text_value : ClassId) (k_TAKE_COMPLETE_text_value : ClassId) (cs0 : Int32) (h0 : Heap) (O : Ext Z.heap h0) (w : own_W Z a_OUT a__VALUES a_INP a_TAKE_COMPLETE a_OUT_text a_INP_text a_TAKE_COMPLETE_text a_OUT_text_value a_INP_text_value a_TAKE_COMPLETE_text_value a_EM k__VALUES k_OUT_text_value k_INP_text_value k_TAKE_COMPLETE_text_value cs0) (Xo : Exa Z h0 o "java/lang/String") (Fv : Fld Z h0 o "java/lang/String" "value" "[B" (.ref t1)) (Fc : Fld Z h0 o "java/lang/String" "coder" "B" (.int 0)) (Fa : Arv Z h0 t1 kb .byte (Int32.ofNat cs.length) ((cs.map (fun c => c.toInt8.toInt32)).map Value.int) (.int 0)) (hp : ∀ c ∈ cs, ¬ c < 0 ∧ ¬ (255 : Int32) < c) (hl : cs.length ≤ 4000) (hq : cs = ([105, 110, 112] : List Int32)) :
    MetFree l (⟨"com/example/tuplebag/tuplebag/bench/Workload", "named", "(Ljava/lang/String;)Ljava/util/Optional;"⟩ : MethodName) (head1 (Jvm.Cond.code (⟨"com/example/tuplebag/tuplebag/bench/Workload", "named", "(Ljava/lang/String;)Ljava/util/Optional;"⟩ : MethodName) prog_9_method_4_code 6 (some (.object "java/util/Optional")) :: ws) ({ frames := 3, cells := 2, slots := 4, locals := 38 } : Room)) (fun a_ U_ => a_ = #[(.ref o)] ∧ Z.Warmed39 U_.vm ∧ U_.heap = h0) (fun _ _ _ _ _ => True) (fun _ U_ o_ U2_ => ∃ v_ L_, o_ = .returned v_ ∧ Q_nd_INP Z o t1 kb cs a_OUT a__VALUES a_INP a_TAKE_COMPLETE a_OUT_text a_INP_text a_TAKE_COMPLETE_text a_OUT_text_value a_INP_text_value a_TAKE_COMPLETE_text_value a_EM k__VALUES k_OUT_text_value k_INP_text_value k_TAKE_COMPLETE_text_value cs0 h0 v_ U2_.heap L_ ∧ FrameEnd U_ o_ U2_ L_ ({ frames := 3, cells := 2, slots := 4, locals := 38 } : Room).cells ({ frames := 3, cells := 2, slots := 4, locals := 38 } : Room).slots) := by
  refine MetFree.of_bodySF (plainFor_of_name own_pn0) hisR ?_
  intro p e s m args below meth c s₁ Bd hml0 hP hK
  obtain ⟨rfl, hZ, hh⟩ := hP
  have hx := Bd.exec
  have hby := Bd.bytes
  have hml : c.maxLocals = 6 := hml0
  have hown : s.vm.findClass "com/example/tuplebag/tuplebag/bench/Workload" = some m.cls := findClass_of_methodNamed Bd.named
  have hnm := (name_of_methodNamed Bd.named Bd.method).1
  have X0 : Stand p l e ({ frames := 3, cells := 2, slots := 4, locals := 38 } : Room) s m #[(.ref o)] below meth c s₁ [] 0 0 := Stand.of_body Bd
  have e0 : s₁.heap = h0 := by rw [← hh, Bd.state]; rfl
  have N0 := Fr.nil Z.heap.size
  show own_G p e below (fun o_ s₂ => ∃ v_ L_, o_ = .returned v_ ∧ Q_nd_INP Z o t1 kb cs a_OUT a__VALUES a_INP a_TAKE_COMPLETE a_OUT_text a_INP_text a_TAKE_COMPLETE_text a_OUT_text_value a_INP_text_value a_TAKE_COMPLETE_text_value a_EM k__VALUES k_OUT_text_value k_INP_text_value k_TAKE_COMPLETE_text_value cs0 h0 v_ s₂.heap L_ ∧ FrameEnd s o_ s₂ L_ ({ frames := 3, cells := 2, slots := 4, locals := 38 } : Room).cells ({ frames := 3, cells := 2, slots := 4, locals := 38 } : Room).slots) (s₁.setTop (entryFrame m #[(.ref o)] 6))
  refine own_go (s₁.setTop (mkF m 0 #[.val (.ref o), .unset, .unset, .unset, .unset, .unset] [])) (fun t_ k_ => castTop (own_ef_nd_INP m o) k_) ?_
  have w' := w
  obtain ⟨S_OUT, X_OUT, S__VALUES, X__VALUES, S_INP, X_INP, S_TAKE_COMPLETE, X_TAKE_COMPLETE, F_OUT_text, X_OUT_text, F_INP_text, X_INP_text, F_TAKE_COMPLETE_text, X_TAKE_COMPLETE_text, F_OUT_text_value, F_INP_text_value, F_TAKE_COMPLETE_text_value, F_OUT_text_coder, F_INP_text_coder, F_TAKE_COMPLETE_text_coder, V__VALUES, V_OUT_text_value, V_INP_text_value, V_TAKE_COMPLETE_text_value, S_CS, n_CS, S_EM, X_EM, F_EM⟩ := w'
  have hbd := own_up cs hp
  have hcd := own_cod cs hp
  obtain ⟨_, _, ⟨T1, Lu1, ku1, nu1⟩, -, X1, ⟨Lc1, hQ1, lu1, yu1, zu1⟩, st1⟩ := Jvm.LawKit.callS X0 hx (y := (⟨"java/util/Optional", "empty", "()Ljava/util/Optional;"⟩ : MethodName)) hown (mvT hZ (hw _ (List.mem_of_getElem? (i := 20) rfl))) (mvT hZ (hw _ (List.mem_of_getElem? (i := 21) rfl))) (mvT hZ (hw _ (List.mem_of_getElem? (i := 22) rfl))) (mvT hZ (hw _ (List.mem_of_getElem? (i := 23) rfl))) (by decide) (backOf (W := 0) (rm_em l Z a0 hw [] (a_OUT) (a__VALUES) (a_INP) (a_TAKE_COMPLETE) (a_OUT_text) (a_INP_text) (a_TAKE_COMPLETE_text) (a_OUT_text_value) (a_INP_text_value) (a_TAKE_COMPLETE_text_value) (a_EM) (k__VALUES) (k_OUT_text_value) (k_INP_text_value) (k_TAKE_COMPLETE_text_value) (cs0) h0 O w) hZ (hw _ (List.mem_of_getElem? (i := 23) rfl)) (hw _ (List.mem_of_getElem? (i := 22) rfl)) (by decide) (by decide)) (g := (mkF m 0 #[.val (.ref o), .unset, .unset, .unset, .unset, .unset] [])) rfl (by rw [hml]; rfl) (argsL := []) (rest := []) (lenOf own_pd2 rfl) rfl (by show 2 * 0 + _ ≤ _; exact Nat.le_of_eq rfl) (hb hby own_d_prog_9_method_4_0) (fun _ _ => ⟨rfl, e0, (by decide : 0 + 0 ≤ _), (by decide : 0 + 0 ≤ _)⟩)
  dsimp only [Pt.U, Pt.locs, Pt.cells, Pt.slots] at X1 lu1 yu1 zu1 st1 hQ1
  subst lu1 yu1 zu1
  obtain ⟨rfl, N1q, e1⟩ := hQ1
  have N1 := Fr.app N0 N1q
  refine own_go (T1.setTop (mkF m 3 #[.val (.ref o), .unset, .unset, .unset, .unset, .unset] [(.ref a_EM)])) (fun t_ k_ => st1 _ k_) ?_
  refine own_go (T1.setTop (mkF m 4 #[.val (.ref o), .val (.ref a_EM), .unset, .unset, .unset, .unset] [])) (fun t_ k_ => XS.astoreN X1.here hx rfl (hb hby own_d_prog_9_method_4_3) rfl rfl (l' := #[.val (.ref o), .val (.ref a_EM), .unset, .unset, .unset, .unset]) rfl k_) ?_
  obtain ⟨_, _, ⟨T2, Lu2, ku2, nu2⟩, -, X2, ⟨Lc2, hQ2, lu2, yu2, zu2⟩, st2⟩ := Jvm.LawKit.callS X1 hx (y := (⟨"com/example/tuplebag/tuplebag/bench/Workload", "values", "()[Lcom/example/tuplebag/tuplebag/bench/Workload;"⟩ : MethodName)) hown (mvT hZ (hw _ (List.mem_of_getElem? (i := 25) rfl))) (mvT hZ (hw _ (List.mem_of_getElem? (i := 26) rfl))) (mvT hZ (hw _ (List.mem_of_getElem? (i := 15) rfl))) (mvT hZ (hw _ (List.mem_of_getElem? (i := 27) rfl))) (by decide) (backOf (W := 0) (rm_va l Z a0 hw [] (a_OUT) (a__VALUES) (a_INP) (a_TAKE_COMPLETE) (a_OUT_text) (a_INP_text) (a_TAKE_COMPLETE_text) (a_OUT_text_value) (a_INP_text_value) (a_TAKE_COMPLETE_text_value) (a_EM) (k__VALUES) (k_OUT_text_value) (k_INP_text_value) (k_TAKE_COMPLETE_text_value) (cs0) h0 O w) hZ (hw _ (List.mem_of_getElem? (i := 27) rfl)) (hw _ (List.mem_of_getElem? (i := 15) rfl)) (by decide) (by decide)) (g := (mkF m 4 #[.val (.ref o), .val (.ref a_EM), .unset, .unset, .unset, .unset] [])) rfl (by rw [hml]; rfl) (argsL := []) (rest := []) (lenOf own_pd3 rfl) rfl (by show 2 * 0 + _ ≤ _; exact Nat.le_of_eq rfl) (hb hby own_d_prog_9_method_4_4) (fun _ _ => ⟨rfl, e1, (by decide : 0 + 1 ≤ _), (by decide : 0 + 3 ≤ _)⟩)
  dsimp only [Pt.U, Pt.locs, Pt.cells, Pt.slots] at X2 lu2 yu2 zu2 st2 hQ2
  subst lu2 yu2 zu2
  obtain ⟨r2, rfl, N2q, K2q, V2q⟩ := hQ2
  have N2 := Fr.app N1 N2q
  have O2 := own_extK O K2q all0
  have KK2 : Keep h0 T2.heap [] := (Keep.refl h0 []).trans K2q all0
  refine own_go (T2.setTop (mkF m 7 #[.val (.ref o), .val (.ref a_EM), .unset, .unset, .unset, .unset] [(.ref r2)])) (fun t_ k_ => st2 _ k_) ?_
  refine own_go (T2.setTop (mkF m 8 #[.val (.ref o), .val (.ref a_EM), .val (.ref r2), .unset, .unset, .unset] [])) (fun t_ k_ => XS.astoreN X2.here hx rfl (hb hby own_d_prog_9_method_4_7) rfl rfl (l' := #[.val (.ref o), .val (.ref a_EM), .val (.ref r2), .unset, .unset, .unset]) rfl k_) ?_
  refine own_go (T2.setTop (mkF m 9 #[.val (.ref o), .val (.ref a_EM), .val (.ref r2), .unset, .unset, .unset] [(.ref r2)])) (fun t_ k_ => XS.aloadN X2.here hx rfl (hb hby own_d_prog_9_method_4_8) rfl rfl k_) ?_
  obtain ⟨cl3, Ar3, q3, Sz3, Nz3, Hz3, Gz3⟩ := id (V2q)
  refine own_go (T2.setTop (mkF m 10 #[.val (.ref o), .val (.ref a_EM), .val (.ref r2), .unset, .unset, .unset] [(.int (3 : Int32))])) (fun t_ k_ => X2.arraylength hx Ar3.1 (State.isArrayOf_alike hZ.alike Ar3.2.1) (g := (mkF m 9 #[.val (.ref o), .val (.ref a_EM), .val (.ref r2), .unset, .unset, .unset] [(.ref r2)])) rfl rfl (hb hby own_d_prog_9_method_4_9) _ (by rw [len_of Sz3 Nz3]; exact k_)) ?_
  refine own_go (T2.setTop (mkF m 11 #[.val (.ref o), .val (.ref a_EM), .val (.ref r2), .val (.int (3 : Int32)), .unset, .unset] [])) (fun t_ k_ => XS.istoreN X2.here hx rfl (hb hby own_d_prog_9_method_4_10) rfl (l' := #[.val (.ref o), .val (.ref a_EM), .val (.ref r2), .val (.int (3 : Int32)), .unset, .unset]) rfl k_) ?_
  refine own_go (T2.setTop (mkF m 12 #[.val (.ref o), .val (.ref a_EM), .val (.ref r2), .val (.int (3 : Int32)), .unset, .unset] [(.int (0 : Int32))])) (fun t_ k_ => XS.iconst X2.here hx rfl (hb hby own_d_prog_9_method_4_11) k_) ?_
  refine own_go (T2.setTop (mkF m 14 #[.val (.ref o), .val (.ref a_EM), .val (.ref r2), .val (.int (3 : Int32)), .val (.int (0 : Int32)), .unset] [])) (fun t_ k_ => XS.istore X2.here hx rfl (hb hby own_d_prog_9_method_4_12) rfl (l' := #[.val (.ref o), .val (.ref a_EM), .val (.ref r2), .val (.int (3 : Int32)), .val (.int (0 : Int32)), .unset]) rfl k_) ?_
  refine own_go (T2.setTop (mkF m 16 #[.val (.ref o), .val (.ref a_EM), .val (.ref r2), .val (.int (3 : Int32)), .val (.int (0 : Int32)), .unset] [(.int (0 : Int32))])) (fun t_ k_ => XS.iload X2.here hx rfl (hb hby own_d_prog_9_method_4_14) rfl k_) ?_
  refine own_go (T2.setTop (mkF m 17 #[.val (.ref o), .val (.ref a_EM), .val (.ref r2), .val (.int (3 : Int32)), .val (.int (0 : Int32)), .unset] [(.int (3 : Int32)), (.int (0 : Int32))])) (fun t_ k_ => XS.iloadN X2.here hx rfl (hb hby own_d_prog_9_method_4_16) rfl k_) ?_
  refine own_go (T2.setTop (mkF m 20 #[.val (.ref o), .val (.ref a_EM), .val (.ref r2), .val (.int (3 : Int32)), .val (.int (0 : Int32)), .unset] [])) (fun t_ k_ => XS.icmpNo X2.here hx rfl (hb hby own_d_prog_9_method_4_17) rfl (tlt (by decide : (0 : Int32) < (3 : Int32))).2.1 k_) ?_
  refine own_go (T2.setTop (mkF m 21 #[.val (.ref o), .val (.ref a_EM), .val (.ref r2), .val (.int (3 : Int32)), .val (.int (0 : Int32)), .unset] [(.ref r2)])) (fun t_ k_ => XS.aloadN X2.here hx rfl (hb hby own_d_prog_9_method_4_20) rfl rfl k_) ?_
  refine own_go (T2.setTop (mkF m 23 #[.val (.ref o), .val (.ref a_EM), .val (.ref r2), .val (.int (3 : Int32)), .val (.int (0 : Int32)), .unset] [(.int (0 : Int32)), (.ref r2)])) (fun t_ k_ => XS.iload X2.here hx rfl (hb hby own_d_prog_9_method_4_21) rfl k_) ?_
  obtain ⟨cl4, Ar4, q4, Sz4, Nz4, Hz4, Gz4⟩ := id (V2q)
  have hin4 : ¬ ((0 : Int32) < 0 ∨ cl4.slots.size ≤ ((0 : Int32)).toNatClampNeg) := inb_of Sz4 ⟨by decide, by decide⟩
  have hat4 : cl4.slots[((0 : Int32)).toNatClampNeg]? = some (.ref a_OUT) := Hz4.at hin4 rfl
  refine own_go (T2.setTop (mkF m 24 #[.val (.ref o), .val (.ref a_EM), .val (.ref r2), .val (.int (3 : Int32)), .val (.int (0 : Int32)), .unset] [(.ref a_OUT)])) (fun t_ k_ => X2.aaload hx (j := (0 : Int32)) (v := (.ref a_OUT)) Ar4.1 (State.isArrayOf_alike hZ.alike Ar4.2.1) rfl Ar4.2.2 hin4 hat4 (g := (mkF m 23 #[.val (.ref o), .val (.ref a_EM), .val (.ref r2), .val (.int (3 : Int32)), .val (.int (0 : Int32)), .unset] [(.int (0 : Int32)), (.ref r2)])) rfl rfl (hb hby own_d_prog_9_method_4_23) _ k_) ?_
  refine own_go (T2.setTop (mkF m 26 #[.val (.ref o), .val (.ref a_EM), .val (.ref r2), .val (.int (3 : Int32)), .val (.int (0 : Int32)), .val (.ref a_OUT)] [])) (fun t_ k_ => XS.astore X2.here hx rfl (hb hby own_d_prog_9_method_4_24) rfl rfl (l' := #[.val (.ref o), .val (.ref a_EM), .val (.ref r2), .val (.int (3 : Int32)), .val (.int (0 : Int32)), .val (.ref a_OUT)]) rfl k_) ?_
  refine own_go (T2.setTop (mkF m 28 #[.val (.ref o), .val (.ref a_EM), .val (.ref r2), .val (.int (3 : Int32)), .val (.int (0 : Int32)), .val (.ref a_OUT)] [(.ref a_OUT)])) (fun t_ k_ => XS.aload X2.here hx rfl (hb hby own_d_prog_9_method_4_26) rfl rfl k_) ?_
  obtain ⟨T5, X5, e5, st5⟩ := getF X2 hx hZ hown (host := "") (Or.inl (hw _ (List.mem_of_getElem? (i := 42) rfl))) Via.refl rfl (F_OUT_text.ext O2) (g := (mkF m 28 #[.val (.ref o), .val (.ref a_EM), .val (.ref r2), .val (.int (3 : Int32)), .val (.int (0 : Int32)), .val (.ref a_OUT)] [(.ref a_OUT)])) rfl rfl (hb hby own_d_prog_9_method_4_28)
  refine own_go (T5.setTop (mkF m 31 #[.val (.ref o), .val (.ref a_EM), .val (.ref r2), .val (.int (3 : Int32)), .val (.int (0 : Int32)), .val (.ref a_OUT)] [(.ref a_OUT_text)])) (fun t_ k_ => st5 _ k_) ?_
  refine own_go (T5.setTop (mkF m 32 #[.val (.ref o), .val (.ref a_EM), .val (.ref r2), .val (.int (3 : Int32)), .val (.int (0 : Int32)), .val (.ref a_OUT)] [(.ref o), (.ref a_OUT_text)])) (fun t_ k_ => XS.aloadN X5.here hx rfl (hb hby own_d_prog_9_method_4_31) rfl rfl k_) ?_
  have Fz7 := (Xo.keep K2q)
  have Fz8 := (Fv.keep K2q nin0)
  have Fz9 := (Fc.keep K2q nin0)
  have Fz10 := (Fa.keep K2q nin0)
  obtain ⟨cq6, kq6, q6a, q6b, q6c⟩ := isOf hZ e5 (X_OUT_text.ext O2)
  obtain ⟨_, _, ⟨T6, Lu6, ku6, nu6⟩, -, X6, ⟨Lc6, hQ6, lu6, yu6, zu6⟩, st6⟩ := X5.virtualBack hx (y := (⟨"java/lang/String", "equals", "(Ljava/lang/Object;)Z"⟩ : MethodName)) (z := (⟨"java/lang/String", "equals", "(Ljava/lang/Object;)Z"⟩ : MethodName)) hown (mvT hZ (hw _ (List.mem_of_getElem? (i := 44) rfl))) (mvT hZ (hw _ (List.mem_of_getElem? (i := 10) rfl))) (notFace_of_selects (args := #[]) (mvT hZ (hw _ (List.mem_of_getElem? (i := 12) rfl)))) (mvT hZ (hw _ (List.mem_of_getElem? (i := 12) rfl))) (mvT hZ (hw _ (List.mem_of_getElem? (i := 11) rfl))) (by decide) (StrChars.Road.eqW (W := 0) hZ (fun d hd => hw d (own_wordsEq d hd)) (kI := 4) (hw _ (List.mem_of_getElem? (i := 3) rfl)) (X_OUT_text.ext O2) (F_OUT_text_value.ext O2) (F_OUT_text_coder.ext O2) (V_OUT_text_value.ext O2) (cs := ([111, 117, 116] : List Int32)) (own_cod ([111, 117, 116] : List Int32) own_hp_OUT) (own_up _ own_hp_OUT) (by decide) Fz7 Fz8 Fz9 Fz10 hcd hbd hl (S_CS.ext O2) n_CS (by decide) (by decide)) q6a q6c (g := (mkF m 32 #[.val (.ref o), .val (.ref a_EM), .val (.ref r2), .val (.int (3 : Int32)), .val (.int (0 : Int32)), .val (.ref a_OUT)] [(.ref o), (.ref a_OUT_text)])) rfl (by rw [hml]; rfl) (Steps.refl _) (argsL := [(.ref o)]) (rest := []) (lenOf own_pd4 rfl) rfl (by show 2 * 0 + _ ≤ _; exact Nat.le_of_eq rfl) (hb hby own_d_prog_9_method_4_32) (fun _ _ => ⟨rfl, e5, (by decide : 1 + 0 ≤ _), (by decide : 3 + 0 ≤ _)⟩)
  dsimp only [Pt.U, Pt.locs, Pt.cells, Pt.slots] at X6 lu6 yu6 zu6 st6 hQ6
  subst lu6 yu6 zu6
  obtain ⟨hcase6, rfl, e6⟩ := hQ6
  have N6q : Fr Z.heap.size ([] : List Loc) := Fr.nil _
  have N6 := Fr.app N2 N6q
  have hv6 := hcase6.elim (fun q => absurd q.2 (by rw [hq] <;> decide)) (fun q => q.1)
  subst hv6
  refine own_go (T6.setTop (mkF m 35 #[.val (.ref o), .val (.ref a_EM), .val (.ref r2), .val (.int (3 : Int32)), .val (.int (0 : Int32)), .val (.ref a_OUT)] [(.int (0 : Int32))])) (fun t_ k_ => st6.trans k_) ?_
  refine own_go (T6.setTop (mkF m 44 #[.val (.ref o), .val (.ref a_EM), .val (.ref r2), .val (.int (3 : Int32)), .val (.int (0 : Int32)), .val (.ref a_OUT)] [])) (fun t_ k_ => XS.ifYes X6.here hx rfl (pc0 := 35) (pc' := 44) rfl (hb hby own_d_prog_9_method_4_35) rfl ((if0 _ _).trans (teq (by decide : (0 : Int32) = (0 : Int32))).1) (by decide) (by decide) k_) ?_
  refine own_go (T6.setTop (mkF m 47 #[.val (.ref o), .val (.ref a_EM), .val (.ref r2), .val (.int (3 : Int32)), .val (.int ((0 : Int32) + (1 : Int32))), .val (.ref a_OUT)] [])) (fun t_ k_ => XS.iinc X6.here hx rfl (hb hby own_d_prog_9_method_4_44) rfl (l' := #[.val (.ref o), .val (.ref a_EM), .val (.ref r2), .val (.int (3 : Int32)), .val (.int ((0 : Int32) + (1 : Int32))), .val (.ref a_OUT)]) rfl k_) ?_
  rw [show ((0 : Int32) + (1 : Int32)) = (1 : Int32) from by decide]
  refine own_go (T6.setTop (mkF m 14 #[.val (.ref o), .val (.ref a_EM), .val (.ref r2), .val (.int (3 : Int32)), .val (.int (1 : Int32)), .val (.ref a_OUT)] [])) (fun t_ k_ => XS.goto X6.here hx rfl (pc0 := 47) (pc' := 14) rfl (hb hby own_d_prog_9_method_4_47) (by decide) (by decide) k_) ?_
  refine own_go (T6.setTop (mkF m 16 #[.val (.ref o), .val (.ref a_EM), .val (.ref r2), .val (.int (3 : Int32)), .val (.int (1 : Int32)), .val (.ref a_OUT)] [(.int (1 : Int32))])) (fun t_ k_ => XS.iload X6.here hx rfl (hb hby own_d_prog_9_method_4_14) rfl k_) ?_
  refine own_go (T6.setTop (mkF m 17 #[.val (.ref o), .val (.ref a_EM), .val (.ref r2), .val (.int (3 : Int32)), .val (.int (1 : Int32)), .val (.ref a_OUT)] [(.int (3 : Int32)), (.int (1 : Int32))])) (fun t_ k_ => XS.iloadN X6.here hx rfl (hb hby own_d_prog_9_method_4_16) rfl k_) ?_
  refine own_go (T6.setTop (mkF m 20 #[.val (.ref o), .val (.ref a_EM), .val (.ref r2), .val (.int (3 : Int32)), .val (.int (1 : Int32)), .val (.ref a_OUT)] [])) (fun t_ k_ => XS.icmpNo X6.here hx rfl (hb hby own_d_prog_9_method_4_17) rfl (tlt (by decide : (1 : Int32) < (3 : Int32))).2.1 k_) ?_
  refine own_go (T6.setTop (mkF m 21 #[.val (.ref o), .val (.ref a_EM), .val (.ref r2), .val (.int (3 : Int32)), .val (.int (1 : Int32)), .val (.ref a_OUT)] [(.ref r2)])) (fun t_ k_ => XS.aloadN X6.here hx rfl (hb hby own_d_prog_9_method_4_20) rfl rfl k_) ?_
  refine own_go (T6.setTop (mkF m 23 #[.val (.ref o), .val (.ref a_EM), .val (.ref r2), .val (.int (3 : Int32)), .val (.int (1 : Int32)), .val (.ref a_OUT)] [(.int (1 : Int32)), (.ref r2)])) (fun t_ k_ => XS.iload X6.here hx rfl (hb hby own_d_prog_9_method_4_21) rfl k_) ?_
  obtain ⟨cl11, Ar11, q11, Sz11, Nz11, Hz11, Gz11⟩ := id (V2q)
  have hin11 : ¬ ((1 : Int32) < 0 ∨ cl11.slots.size ≤ ((1 : Int32)).toNatClampNeg) := inb_of Sz11 ⟨by decide, by decide⟩
  have hat11 : cl11.slots[((1 : Int32)).toNatClampNeg]? = some (.ref a_INP) := Hz11.at hin11 rfl
  refine own_go (T6.setTop (mkF m 24 #[.val (.ref o), .val (.ref a_EM), .val (.ref r2), .val (.int (3 : Int32)), .val (.int (1 : Int32)), .val (.ref a_OUT)] [(.ref a_INP)])) (fun t_ k_ => X6.aaload hx (j := (1 : Int32)) (v := (.ref a_INP)) (by rw [e6]; exact Ar11.1) (State.isArrayOf_alike hZ.alike Ar11.2.1) rfl Ar11.2.2 hin11 hat11 (g := (mkF m 23 #[.val (.ref o), .val (.ref a_EM), .val (.ref r2), .val (.int (3 : Int32)), .val (.int (1 : Int32)), .val (.ref a_OUT)] [(.int (1 : Int32)), (.ref r2)])) rfl rfl (hb hby own_d_prog_9_method_4_23) _ k_) ?_
  refine own_go (T6.setTop (mkF m 26 #[.val (.ref o), .val (.ref a_EM), .val (.ref r2), .val (.int (3 : Int32)), .val (.int (1 : Int32)), .val (.ref a_INP)] [])) (fun t_ k_ => XS.astore X6.here hx rfl (hb hby own_d_prog_9_method_4_24) rfl rfl (l' := #[.val (.ref o), .val (.ref a_EM), .val (.ref r2), .val (.int (3 : Int32)), .val (.int (1 : Int32)), .val (.ref a_INP)]) rfl k_) ?_
  refine own_go (T6.setTop (mkF m 28 #[.val (.ref o), .val (.ref a_EM), .val (.ref r2), .val (.int (3 : Int32)), .val (.int (1 : Int32)), .val (.ref a_INP)] [(.ref a_INP)])) (fun t_ k_ => XS.aload X6.here hx rfl (hb hby own_d_prog_9_method_4_26) rfl rfl k_) ?_
  obtain ⟨T12, X12, e12, st12⟩ := getF X6 hx hZ hown (host := "") (Or.inl (hw _ (List.mem_of_getElem? (i := 42) rfl))) Via.refl e6 (F_INP_text.ext O2) (g := (mkF m 28 #[.val (.ref o), .val (.ref a_EM), .val (.ref r2), .val (.int (3 : Int32)), .val (.int (1 : Int32)), .val (.ref a_INP)] [(.ref a_INP)])) rfl rfl (hb hby own_d_prog_9_method_4_28)
  refine own_go (T12.setTop (mkF m 31 #[.val (.ref o), .val (.ref a_EM), .val (.ref r2), .val (.int (3 : Int32)), .val (.int (1 : Int32)), .val (.ref a_INP)] [(.ref a_INP_text)])) (fun t_ k_ => st12 _ k_) ?_
  refine own_go (T12.setTop (mkF m 32 #[.val (.ref o), .val (.ref a_EM), .val (.ref r2), .val (.int (3 : Int32)), .val (.int (1 : Int32)), .val (.ref a_INP)] [(.ref o), (.ref a_INP_text)])) (fun t_ k_ => XS.aloadN X12.here hx rfl (hb hby own_d_prog_9_method_4_31) rfl rfl k_) ?_
  obtain ⟨cq13, kq13, q13a, q13b, q13c⟩ := isOf hZ e12 (X_INP_text.ext O2)
  obtain ⟨_, _, ⟨T13, Lu13, ku13, nu13⟩, -, X13, ⟨Lc13, hQ13, lu13, yu13, zu13⟩, st13⟩ := X12.virtualBack hx (y := (⟨"java/lang/String", "equals", "(Ljava/lang/Object;)Z"⟩ : MethodName)) (z := (⟨"java/lang/String", "equals", "(Ljava/lang/Object;)Z"⟩ : MethodName)) hown (mvT hZ (hw _ (List.mem_of_getElem? (i := 44) rfl))) (mvT hZ (hw _ (List.mem_of_getElem? (i := 10) rfl))) (notFace_of_selects (args := #[]) (mvT hZ (hw _ (List.mem_of_getElem? (i := 12) rfl)))) (mvT hZ (hw _ (List.mem_of_getElem? (i := 12) rfl))) (mvT hZ (hw _ (List.mem_of_getElem? (i := 11) rfl))) (by decide) (StrChars.Road.eqW (W := 0) hZ (fun d hd => hw d (own_wordsEq d hd)) (kI := 4) (hw _ (List.mem_of_getElem? (i := 3) rfl)) (X_INP_text.ext O2) (F_INP_text_value.ext O2) (F_INP_text_coder.ext O2) (V_INP_text_value.ext O2) (cs := ([105, 110, 112] : List Int32)) (own_cod ([105, 110, 112] : List Int32) own_hp_INP) (own_up _ own_hp_INP) (by decide) Fz7 Fz8 Fz9 Fz10 hcd hbd hl (S_CS.ext O2) n_CS (by decide) (by decide)) q13a q13c (g := (mkF m 32 #[.val (.ref o), .val (.ref a_EM), .val (.ref r2), .val (.int (3 : Int32)), .val (.int (1 : Int32)), .val (.ref a_INP)] [(.ref o), (.ref a_INP_text)])) rfl (by rw [hml]; rfl) (Steps.refl _) (argsL := [(.ref o)]) (rest := []) (lenOf own_pd4 rfl) rfl (by show 2 * 0 + _ ≤ _; exact Nat.le_of_eq rfl) (hb hby own_d_prog_9_method_4_32) (fun _ _ => ⟨rfl, e12, (by decide : 1 + 0 ≤ _), (by decide : 3 + 0 ≤ _)⟩)
  dsimp only [Pt.U, Pt.locs, Pt.cells, Pt.slots] at X13 lu13 yu13 zu13 st13 hQ13
  subst lu13 yu13 zu13
  obtain ⟨hcase13, rfl, e13⟩ := hQ13
  have N13q : Fr Z.heap.size ([] : List Loc) := Fr.nil _
  have N13 := Fr.app N6 N13q
  have hv13 := hcase13.elim (fun q => q.1) (fun q => absurd (hq.symm) q.2)
  subst hv13
  refine own_go (T13.setTop (mkF m 35 #[.val (.ref o), .val (.ref a_EM), .val (.ref r2), .val (.int (3 : Int32)), .val (.int (1 : Int32)), .val (.ref a_INP)] [(.int (1 : Int32))])) (fun t_ k_ => st13.trans k_) ?_
  refine own_go (T13.setTop (mkF m 38 #[.val (.ref o), .val (.ref a_EM), .val (.ref r2), .val (.int (3 : Int32)), .val (.int (1 : Int32)), .val (.ref a_INP)] [])) (fun t_ k_ => XS.ifNo X13.here hx rfl (hb hby own_d_prog_9_method_4_35) rfl ((if0 _ _).trans (feq (by decide : ¬ ((1 : Int32) = (0 : Int32)))).1) k_) ?_
  refine own_go (T13.setTop (mkF m 40 #[.val (.ref o), .val (.ref a_EM), .val (.ref r2), .val (.int (3 : Int32)), .val (.int (1 : Int32)), .val (.ref a_INP)] [(.ref a_INP)])) (fun t_ k_ => XS.aload X13.here hx rfl (hb hby own_d_prog_9_method_4_38) rfl rfl k_) ?_
  obtain ⟨_, _, ⟨T14, Lu14, ku14, nu14⟩, -, X14, ⟨Lc14, hQ14, lu14, yu14, zu14⟩, st14⟩ := Jvm.LawKit.callS X13 hx (y := (⟨"java/util/Optional", "of", "(Ljava/lang/Object;)Ljava/util/Optional;"⟩ : MethodName)) hown (mvT hZ (hw _ (List.mem_of_getElem? (i := 54) rfl))) (mvT hZ (hw _ (List.mem_of_getElem? (i := 55) rfl))) (mvT hZ (hw _ (List.mem_of_getElem? (i := 22) rfl))) (mvT hZ (hw _ (List.mem_of_getElem? (i := 56) rfl))) (by decide) (backOf (W := 0) (rm_oo l Z a0 hw [] (a_INP) T2.heap O2 ) hZ (hw _ (List.mem_of_getElem? (i := 56) rfl)) (hw _ (List.mem_of_getElem? (i := 22) rfl)) (by decide) (by decide)) (g := (mkF m 40 #[.val (.ref o), .val (.ref a_EM), .val (.ref r2), .val (.int (3 : Int32)), .val (.int (1 : Int32)), .val (.ref a_INP)] [(.ref a_INP)])) rfl (by rw [hml]; rfl) (argsL := [(.ref a_INP)]) (rest := []) (lenOf own_pd5 rfl) rfl (by show 2 * 0 + _ ≤ _; exact Nat.le_of_eq rfl) (hb hby own_d_prog_9_method_4_40) (fun _ _ => ⟨rfl, e13, (by decide : 1 + 1 ≤ _), (by decide : 3 + 1 ≤ _)⟩)
  dsimp only [Pt.U, Pt.locs, Pt.cells, Pt.slots] at X14 lu14 yu14 zu14 st14 hQ14
  subst lu14 yu14 zu14
  obtain ⟨r14, rfl, N14q, K14q, X14q, F14q⟩ := hQ14
  have N14 := Fr.app N13 N14q
  have O14 := own_extK O2 K14q all0
  have KK14 : Keep h0 T14.heap [] := KK2.trans K14q all0
  refine own_go (T14.setTop (mkF m 43 #[.val (.ref o), .val (.ref a_EM), .val (.ref r2), .val (.int (3 : Int32)), .val (.int (1 : Int32)), .val (.ref a_INP)] [(.ref r14)])) (fun t_ k_ => st14 _ k_) ?_
  refine own_go (T14.setTop (mkF m 44 #[.val (.ref o), .val (.ref r14), .val (.ref r2), .val (.int (3 : Int32)), .val (.int (1 : Int32)), .val (.ref a_INP)] [])) (fun t_ k_ => XS.astoreN X14.here hx rfl (hb hby own_d_prog_9_method_4_43) rfl rfl (l' := #[.val (.ref o), .val (.ref r14), .val (.ref r2), .val (.int (3 : Int32)), .val (.int (1 : Int32)), .val (.ref a_INP)]) rfl k_) ?_
  refine own_go (T14.setTop (mkF m 47 #[.val (.ref o), .val (.ref r14), .val (.ref r2), .val (.int (3 : Int32)), .val (.int ((1 : Int32) + (1 : Int32))), .val (.ref a_INP)] [])) (fun t_ k_ => XS.iinc X14.here hx rfl (hb hby own_d_prog_9_method_4_44) rfl (l' := #[.val (.ref o), .val (.ref r14), .val (.ref r2), .val (.int (3 : Int32)), .val (.int ((1 : Int32) + (1 : Int32))), .val (.ref a_INP)]) rfl k_) ?_
  rw [show ((1 : Int32) + (1 : Int32)) = (2 : Int32) from by decide]
  refine own_go (T14.setTop (mkF m 14 #[.val (.ref o), .val (.ref r14), .val (.ref r2), .val (.int (3 : Int32)), .val (.int (2 : Int32)), .val (.ref a_INP)] [])) (fun t_ k_ => XS.goto X14.here hx rfl (pc0 := 47) (pc' := 14) rfl (hb hby own_d_prog_9_method_4_47) (by decide) (by decide) k_) ?_
  refine own_go (T14.setTop (mkF m 16 #[.val (.ref o), .val (.ref r14), .val (.ref r2), .val (.int (3 : Int32)), .val (.int (2 : Int32)), .val (.ref a_INP)] [(.int (2 : Int32))])) (fun t_ k_ => XS.iload X14.here hx rfl (hb hby own_d_prog_9_method_4_14) rfl k_) ?_
  refine own_go (T14.setTop (mkF m 17 #[.val (.ref o), .val (.ref r14), .val (.ref r2), .val (.int (3 : Int32)), .val (.int (2 : Int32)), .val (.ref a_INP)] [(.int (3 : Int32)), (.int (2 : Int32))])) (fun t_ k_ => XS.iloadN X14.here hx rfl (hb hby own_d_prog_9_method_4_16) rfl k_) ?_
  refine own_go (T14.setTop (mkF m 20 #[.val (.ref o), .val (.ref r14), .val (.ref r2), .val (.int (3 : Int32)), .val (.int (2 : Int32)), .val (.ref a_INP)] [])) (fun t_ k_ => XS.icmpNo X14.here hx rfl (hb hby own_d_prog_9_method_4_17) rfl (tlt (by decide : (2 : Int32) < (3 : Int32))).2.1 k_) ?_
  refine own_go (T14.setTop (mkF m 21 #[.val (.ref o), .val (.ref r14), .val (.ref r2), .val (.int (3 : Int32)), .val (.int (2 : Int32)), .val (.ref a_INP)] [(.ref r2)])) (fun t_ k_ => XS.aloadN X14.here hx rfl (hb hby own_d_prog_9_method_4_20) rfl rfl k_) ?_
  refine own_go (T14.setTop (mkF m 23 #[.val (.ref o), .val (.ref r14), .val (.ref r2), .val (.int (3 : Int32)), .val (.int (2 : Int32)), .val (.ref a_INP)] [(.int (2 : Int32)), (.ref r2)])) (fun t_ k_ => XS.iload X14.here hx rfl (hb hby own_d_prog_9_method_4_21) rfl k_) ?_
  have Fz16 := (V2q.keep K14q nin0)
  obtain ⟨cl15, Ar15, q15, Sz15, Nz15, Hz15, Gz15⟩ := id (Fz16)
  have hin15 : ¬ ((2 : Int32) < 0 ∨ cl15.slots.size ≤ ((2 : Int32)).toNatClampNeg) := inb_of Sz15 ⟨by decide, by decide⟩
  have hat15 : cl15.slots[((2 : Int32)).toNatClampNeg]? = some (.ref a_TAKE_COMPLETE) := Hz15.at hin15 rfl
  refine own_go (T14.setTop (mkF m 24 #[.val (.ref o), .val (.ref r14), .val (.ref r2), .val (.int (3 : Int32)), .val (.int (2 : Int32)), .val (.ref a_INP)] [(.ref a_TAKE_COMPLETE)])) (fun t_ k_ => X14.aaload hx (j := (2 : Int32)) (v := (.ref a_TAKE_COMPLETE)) Ar15.1 (State.isArrayOf_alike hZ.alike Ar15.2.1) rfl Ar15.2.2 hin15 hat15 (g := (mkF m 23 #[.val (.ref o), .val (.ref r14), .val (.ref r2), .val (.int (3 : Int32)), .val (.int (2 : Int32)), .val (.ref a_INP)] [(.int (2 : Int32)), (.ref r2)])) rfl rfl (hb hby own_d_prog_9_method_4_23) _ k_) ?_
  refine own_go (T14.setTop (mkF m 26 #[.val (.ref o), .val (.ref r14), .val (.ref r2), .val (.int (3 : Int32)), .val (.int (2 : Int32)), .val (.ref a_TAKE_COMPLETE)] [])) (fun t_ k_ => XS.astore X14.here hx rfl (hb hby own_d_prog_9_method_4_24) rfl rfl (l' := #[.val (.ref o), .val (.ref r14), .val (.ref r2), .val (.int (3 : Int32)), .val (.int (2 : Int32)), .val (.ref a_TAKE_COMPLETE)]) rfl k_) ?_
  refine own_go (T14.setTop (mkF m 28 #[.val (.ref o), .val (.ref r14), .val (.ref r2), .val (.int (3 : Int32)), .val (.int (2 : Int32)), .val (.ref a_TAKE_COMPLETE)] [(.ref a_TAKE_COMPLETE)])) (fun t_ k_ => XS.aload X14.here hx rfl (hb hby own_d_prog_9_method_4_26) rfl rfl k_) ?_
  obtain ⟨T17, X17, e17, st17⟩ := getF X14 hx hZ hown (host := "") (Or.inl (hw _ (List.mem_of_getElem? (i := 42) rfl))) Via.refl rfl (F_TAKE_COMPLETE_text.ext O14) (g := (mkF m 28 #[.val (.ref o), .val (.ref r14), .val (.ref r2), .val (.int (3 : Int32)), .val (.int (2 : Int32)), .val (.ref a_TAKE_COMPLETE)] [(.ref a_TAKE_COMPLETE)])) rfl rfl (hb hby own_d_prog_9_method_4_28)
  refine own_go (T17.setTop (mkF m 31 #[.val (.ref o), .val (.ref r14), .val (.ref r2), .val (.int (3 : Int32)), .val (.int (2 : Int32)), .val (.ref a_TAKE_COMPLETE)] [(.ref a_TAKE_COMPLETE_text)])) (fun t_ k_ => st17 _ k_) ?_
  refine own_go (T17.setTop (mkF m 32 #[.val (.ref o), .val (.ref r14), .val (.ref r2), .val (.int (3 : Int32)), .val (.int (2 : Int32)), .val (.ref a_TAKE_COMPLETE)] [(.ref o), (.ref a_TAKE_COMPLETE_text)])) (fun t_ k_ => XS.aloadN X17.here hx rfl (hb hby own_d_prog_9_method_4_31) rfl rfl k_) ?_
  have Fz19 := (Fz7.keep K14q)
  have Fz20 := (Fz8.keep K14q nin0)
  have Fz21 := (Fz9.keep K14q nin0)
  have Fz22 := (Fz10.keep K14q nin0)
  obtain ⟨cq18, kq18, q18a, q18b, q18c⟩ := isOf hZ e17 (X_TAKE_COMPLETE_text.ext O14)
  obtain ⟨_, _, ⟨T18, Lu18, ku18, nu18⟩, -, X18, ⟨Lc18, hQ18, lu18, yu18, zu18⟩, st18⟩ := X17.virtualBack hx (y := (⟨"java/lang/String", "equals", "(Ljava/lang/Object;)Z"⟩ : MethodName)) (z := (⟨"java/lang/String", "equals", "(Ljava/lang/Object;)Z"⟩ : MethodName)) hown (mvT hZ (hw _ (List.mem_of_getElem? (i := 44) rfl))) (mvT hZ (hw _ (List.mem_of_getElem? (i := 10) rfl))) (notFace_of_selects (args := #[]) (mvT hZ (hw _ (List.mem_of_getElem? (i := 12) rfl)))) (mvT hZ (hw _ (List.mem_of_getElem? (i := 12) rfl))) (mvT hZ (hw _ (List.mem_of_getElem? (i := 11) rfl))) (by decide) (StrChars.Road.eqW (W := 0) hZ (fun d hd => hw d (own_wordsEq d hd)) (kI := 4) (hw _ (List.mem_of_getElem? (i := 3) rfl)) (X_TAKE_COMPLETE_text.ext O14) (F_TAKE_COMPLETE_text_value.ext O14) (F_TAKE_COMPLETE_text_coder.ext O14) (V_TAKE_COMPLETE_text_value.ext O14) (cs := ([116, 97, 107, 101, 45, 99, 111, 109, 112, 108, 101, 116, 101] : List Int32)) (own_cod ([116, 97, 107, 101, 45, 99, 111, 109, 112, 108, 101, 116, 101] : List Int32) own_hp_TAKE_COMPLETE) (own_up _ own_hp_TAKE_COMPLETE) (by decide) Fz19 Fz20 Fz21 Fz22 hcd hbd hl (S_CS.ext O14) n_CS (by decide) (by decide)) q18a q18c (g := (mkF m 32 #[.val (.ref o), .val (.ref r14), .val (.ref r2), .val (.int (3 : Int32)), .val (.int (2 : Int32)), .val (.ref a_TAKE_COMPLETE)] [(.ref o), (.ref a_TAKE_COMPLETE_text)])) rfl (by rw [hml]; rfl) (Steps.refl _) (argsL := [(.ref o)]) (rest := []) (lenOf own_pd4 rfl) rfl (by show 2 * 0 + _ ≤ _; exact Nat.le_of_eq rfl) (hb hby own_d_prog_9_method_4_32) (fun _ _ => ⟨rfl, e17, (by decide : 2 + 0 ≤ _), (by decide : 4 + 0 ≤ _)⟩)
  dsimp only [Pt.U, Pt.locs, Pt.cells, Pt.slots] at X18 lu18 yu18 zu18 st18 hQ18
  subst lu18 yu18 zu18
  obtain ⟨hcase18, rfl, e18⟩ := hQ18
  have N18q : Fr Z.heap.size ([] : List Loc) := Fr.nil _
  have N18 := Fr.app N14 N18q
  have hv18 := hcase18.elim (fun q => absurd q.2 (by rw [hq] <;> decide)) (fun q => q.1)
  subst hv18
  refine own_go (T18.setTop (mkF m 35 #[.val (.ref o), .val (.ref r14), .val (.ref r2), .val (.int (3 : Int32)), .val (.int (2 : Int32)), .val (.ref a_TAKE_COMPLETE)] [(.int (0 : Int32))])) (fun t_ k_ => st18.trans k_) ?_
  refine own_go (T18.setTop (mkF m 44 #[.val (.ref o), .val (.ref r14), .val (.ref r2), .val (.int (3 : Int32)), .val (.int (2 : Int32)), .val (.ref a_TAKE_COMPLETE)] [])) (fun t_ k_ => XS.ifYes X18.here hx rfl (pc0 := 35) (pc' := 44) rfl (hb hby own_d_prog_9_method_4_35) rfl ((if0 _ _).trans (teq (by decide : (0 : Int32) = (0 : Int32))).1) (by decide) (by decide) k_) ?_
  refine own_go (T18.setTop (mkF m 47 #[.val (.ref o), .val (.ref r14), .val (.ref r2), .val (.int (3 : Int32)), .val (.int ((2 : Int32) + (1 : Int32))), .val (.ref a_TAKE_COMPLETE)] [])) (fun t_ k_ => XS.iinc X18.here hx rfl (hb hby own_d_prog_9_method_4_44) rfl (l' := #[.val (.ref o), .val (.ref r14), .val (.ref r2), .val (.int (3 : Int32)), .val (.int ((2 : Int32) + (1 : Int32))), .val (.ref a_TAKE_COMPLETE)]) rfl k_) ?_
  rw [show ((2 : Int32) + (1 : Int32)) = (3 : Int32) from by decide]
  refine own_go (T18.setTop (mkF m 14 #[.val (.ref o), .val (.ref r14), .val (.ref r2), .val (.int (3 : Int32)), .val (.int (3 : Int32)), .val (.ref a_TAKE_COMPLETE)] [])) (fun t_ k_ => XS.goto X18.here hx rfl (pc0 := 47) (pc' := 14) rfl (hb hby own_d_prog_9_method_4_47) (by decide) (by decide) k_) ?_
  refine own_go (T18.setTop (mkF m 16 #[.val (.ref o), .val (.ref r14), .val (.ref r2), .val (.int (3 : Int32)), .val (.int (3 : Int32)), .val (.ref a_TAKE_COMPLETE)] [(.int (3 : Int32))])) (fun t_ k_ => XS.iload X18.here hx rfl (hb hby own_d_prog_9_method_4_14) rfl k_) ?_
  refine own_go (T18.setTop (mkF m 17 #[.val (.ref o), .val (.ref r14), .val (.ref r2), .val (.int (3 : Int32)), .val (.int (3 : Int32)), .val (.ref a_TAKE_COMPLETE)] [(.int (3 : Int32)), (.int (3 : Int32))])) (fun t_ k_ => XS.iloadN X18.here hx rfl (hb hby own_d_prog_9_method_4_16) rfl k_) ?_
  refine own_go (T18.setTop (mkF m 50 #[.val (.ref o), .val (.ref r14), .val (.ref r2), .val (.int (3 : Int32)), .val (.int (3 : Int32)), .val (.ref a_TAKE_COMPLETE)] [])) (fun t_ k_ => XS.icmpYes X18.here hx rfl (pc0 := 17) (pc' := 50) rfl (hb hby own_d_prog_9_method_4_17) rfl (flt (by decide : ¬ ((3 : Int32) < (3 : Int32)))).2.1 (by decide) (by decide) k_) ?_
  refine own_go (T18.setTop (mkF m 51 #[.val (.ref o), .val (.ref r14), .val (.ref r2), .val (.int (3 : Int32)), .val (.int (3 : Int32)), .val (.ref a_TAKE_COMPLETE)] [(.ref r14)])) (fun t_ k_ => XS.aloadN X18.here hx rfl (hb hby own_d_prog_9_method_4_50) rfl rfl k_) ?_
  obtain ⟨fs, hr, hrun, hended, hW, hsame⟩ := X18.leave (v := some (.ref r14)) (fun h => by rw [Bd.returns] at h; cases h)
  refine ⟨_, _, Jvm.RoadKit.retOut X18 hx Bd.returns rfl (Or.inr (Or.inr (Or.inr (Or.inr ⟨rfl, rfl, rfl⟩)))) (hb hby own_d_prog_9_method_4_51) hr, hrun, hended, _, _, rfl, ?_, ⟨_, rfl⟩, hW, hsame.mono (by decide) (by decide)⟩
  show Q_nd_INP Z o t1 kb cs a_OUT a__VALUES a_INP a_TAKE_COMPLETE a_OUT_text a_INP_text a_TAKE_COMPLETE_text a_OUT_text_value a_INP_text_value a_TAKE_COMPLETE_text_value a_EM k__VALUES k_OUT_text_value k_INP_text_value k_TAKE_COMPLETE_text_value cs0 h0 _ T18.heap _
  rw [show T18.heap = T14.heap from e18]
  exact ⟨_, rfl, N18, KK14, X14q, F14q⟩
theorem own_ef_nd_TAKE_COMPLETE (m : MethodId) (o : Addr) : entryFrame m #[(.ref o)] 6 = mkF m 0 #[.val (.ref o), .unset, .unset, .unset, .unset, .unset] [] := by first | (simp [entryFrame, mkF, argsToLocals, Value.category]; done) | rfl
def Q_nd_TAKE_COMPLETE (Z : State) (o : Addr) (t1 : Addr) (kb : ClassId) (cs : List Int32) (a_OUT : Addr) (a__VALUES : Addr) (a_INP : Addr) (a_TAKE_COMPLETE : Addr) (a_OUT_text : Addr) (a_INP_text : Addr) (a_TAKE_COMPLETE_text : Addr) (a_OUT_text_value : Addr) (a_INP_text_value : Addr) (a_TAKE_COMPLETE_text_value : Addr) (a_EM : Addr) (k__VALUES : ClassId) (k_OUT_text_value : ClassId) (k_INP_text_value : ClassId) (k_TAKE_COMPLETE_text_value : ClassId) (cs0 : Int32) (h0 : Heap) (v_ : Option Value) (h : Heap) (L_ : List Loc) : Prop := ∃ (r : Addr), v_ = some (.ref r) ∧ Fr Z.heap.size L_ ∧ (Keep h0 h [] ∧ Exa Z h r "java/util/Optional" ∧ Fld Z h r "java/util/Optional" "value" "Ljava/lang/Object;" (.ref a_TAKE_COMPLETE))
set_option maxRecDepth 65536 in
set_option maxHeartbeats 40000000 in
theorem rm_nd_TAKE_COMPLETE (l : Launch) (Z : State) (a0 : Array Value) (hw : ∀ d ∈ tables_1, d.before a0 Z = true) (ws : List Jvm.Cond) (o : Addr) (t1 : Addr) (kb : ClassId) (cs : List Int32) (a_OUT : Addr) (a__VALUES : Addr) (a_INP : Addr) (a_TAKE_COMPLETE : Addr) (a_OUT_text : Addr) (a_INP_text : Addr) (a_TAKE_COMPLETE_text : Addr) (a_OUT_text_value : Addr) (a_INP_text_value : Addr) (a_TAKE_COMPLETE_text_value : Addr) (a_EM : Addr) (k__VALUES : ClassId) (k_OUT_text_value : ClassId) (k_INP_text_value : ClassId) (k_TAKE_COMPLETE_text_value : ClassId) (cs0 : Int32) (h0 : Heap) (O : Ext Z.heap h0) (w : own_W Z a_OUT a__VALUES a_INP a_TAKE_COMPLETE a_OUT_text a_INP_text a_TAKE_COMPLETE_text a_OUT_text_value a_INP_text_value a_TAKE_COMPLETE_text_value a_EM k__VALUES k_OUT_text_value k_INP_text_value k_TAKE_COMPLETE_text_value cs0) (Xo : Exa Z h0 o "java/lang/String") (Fv : Fld Z h0 o "java/lang/String" "value" "[B" (.ref t1)) (Fc : Fld Z h0 o "java/lang/String" "coder" "B" (.int 0)) (Fa : Arv Z h0 t1 kb .byte (Int32.ofNat cs.length) ((cs.map (fun c => c.toInt8.toInt32)).map Value.int) (.int 0)) (hp : ∀ c ∈ cs, ¬ c < 0 ∧ ¬ (255 : Int32) < c) (hl : cs.length ≤ 4000) (hq : cs = ([116, 97, 107, 101, 45, 99, 111, 109, 112, 108, 101, 116, 101] : List Int32)) :
    MetFree l (⟨"com/example/tuplebag/tuplebag/bench/Workload", "named", "(Ljava/lang/String;)Ljava/util/Optional;"⟩ : MethodName) (head1 (Jvm.Cond.code (⟨"com/example/tuplebag/tuplebag/bench/Workload", "named", "(Ljava/lang/String;)Ljava/util/Optional;"⟩ : MethodName) prog_9_method_4_code 6 (some (.object "java/util/Optional")) :: ws) ({ frames := 3, cells := 2, slots := 4, locals := 38 } : Room)) (fun a_ U_ => a_ = #[(.ref o)] ∧ Z.Warmed39 U_.vm ∧ U_.heap = h0) (fun _ _ _ _ _ => True) (fun _ U_ o_ U2_ => ∃ v_ L_, o_ = .returned v_ ∧ Q_nd_TAKE_COMPLETE Z o t1 kb cs a_OUT a__VALUES a_INP a_TAKE_COMPLETE a_OUT_text a_INP_text a_TAKE_COMPLETE_text a_OUT_text_value a_INP_text_value a_TAKE_COMPLETE_text_value a_EM k__VALUES k_OUT_text_value k_INP_text_value k_TAKE_COMPLETE_text_value cs0 h0 v_ U2_.heap L_ ∧ FrameEnd U_ o_ U2_ L_ ({ frames := 3, cells := 2, slots := 4, locals := 38 } : Room).cells ({ frames := 3, cells := 2, slots := 4, locals := 38 } : Room).slots) := by
  refine MetFree.of_bodySF (plainFor_of_name own_pn0) hisR ?_
  intro p e s m args below meth c s₁ Bd hml0 hP hK
  obtain ⟨rfl, hZ, hh⟩ := hP
  have hx := Bd.exec
  have hby := Bd.bytes
  have hml : c.maxLocals = 6 := hml0
  have hown : s.vm.findClass "com/example/tuplebag/tuplebag/bench/Workload" = some m.cls := findClass_of_methodNamed Bd.named
  have hnm := (name_of_methodNamed Bd.named Bd.method).1
  have X0 : Stand p l e ({ frames := 3, cells := 2, slots := 4, locals := 38 } : Room) s m #[(.ref o)] below meth c s₁ [] 0 0 := Stand.of_body Bd
  have e0 : s₁.heap = h0 := by rw [← hh, Bd.state]; rfl
  have N0 := Fr.nil Z.heap.size
  show own_G p e below (fun o_ s₂ => ∃ v_ L_, o_ = .returned v_ ∧ Q_nd_TAKE_COMPLETE Z o t1 kb cs a_OUT a__VALUES a_INP a_TAKE_COMPLETE a_OUT_text a_INP_text a_TAKE_COMPLETE_text a_OUT_text_value a_INP_text_value a_TAKE_COMPLETE_text_value a_EM k__VALUES k_OUT_text_value k_INP_text_value k_TAKE_COMPLETE_text_value cs0 h0 v_ s₂.heap L_ ∧ FrameEnd s o_ s₂ L_ ({ frames := 3, cells := 2, slots := 4, locals := 38 } : Room).cells ({ frames := 3, cells := 2, slots := 4, locals := 38 } : Room).slots) (s₁.setTop (entryFrame m #[(.ref o)] 6))
  refine own_go (s₁.setTop (mkF m 0 #[.val (.ref o), .unset, .unset, .unset, .unset, .unset] [])) (fun t_ k_ => castTop (own_ef_nd_TAKE_COMPLETE m o) k_) ?_
  have w' := w
  obtain ⟨S_OUT, X_OUT, S__VALUES, X__VALUES, S_INP, X_INP, S_TAKE_COMPLETE, X_TAKE_COMPLETE, F_OUT_text, X_OUT_text, F_INP_text, X_INP_text, F_TAKE_COMPLETE_text, X_TAKE_COMPLETE_text, F_OUT_text_value, F_INP_text_value, F_TAKE_COMPLETE_text_value, F_OUT_text_coder, F_INP_text_coder, F_TAKE_COMPLETE_text_coder, V__VALUES, V_OUT_text_value, V_INP_text_value, V_TAKE_COMPLETE_text_value, S_CS, n_CS, S_EM, X_EM, F_EM⟩ := w'
  have hbd := own_up cs hp
  have hcd := own_cod cs hp
  obtain ⟨_, _, ⟨T1, Lu1, ku1, nu1⟩, -, X1, ⟨Lc1, hQ1, lu1, yu1, zu1⟩, st1⟩ := Jvm.LawKit.callS X0 hx (y := (⟨"java/util/Optional", "empty", "()Ljava/util/Optional;"⟩ : MethodName)) hown (mvT hZ (hw _ (List.mem_of_getElem? (i := 20) rfl))) (mvT hZ (hw _ (List.mem_of_getElem? (i := 21) rfl))) (mvT hZ (hw _ (List.mem_of_getElem? (i := 22) rfl))) (mvT hZ (hw _ (List.mem_of_getElem? (i := 23) rfl))) (by decide) (backOf (W := 0) (rm_em l Z a0 hw [] (a_OUT) (a__VALUES) (a_INP) (a_TAKE_COMPLETE) (a_OUT_text) (a_INP_text) (a_TAKE_COMPLETE_text) (a_OUT_text_value) (a_INP_text_value) (a_TAKE_COMPLETE_text_value) (a_EM) (k__VALUES) (k_OUT_text_value) (k_INP_text_value) (k_TAKE_COMPLETE_text_value) (cs0) h0 O w) hZ (hw _ (List.mem_of_getElem? (i := 23) rfl)) (hw _ (List.mem_of_getElem? (i := 22) rfl)) (by decide) (by decide)) (g := (mkF m 0 #[.val (.ref o), .unset, .unset, .unset, .unset, .unset] [])) rfl (by rw [hml]; rfl) (argsL := []) (rest := []) (lenOf own_pd2 rfl) rfl (by show 2 * 0 + _ ≤ _; exact Nat.le_of_eq rfl) (hb hby own_d_prog_9_method_4_0) (fun _ _ => ⟨rfl, e0, (by decide : 0 + 0 ≤ _), (by decide : 0 + 0 ≤ _)⟩)
  dsimp only [Pt.U, Pt.locs, Pt.cells, Pt.slots] at X1 lu1 yu1 zu1 st1 hQ1
  subst lu1 yu1 zu1
  obtain ⟨rfl, N1q, e1⟩ := hQ1
  have N1 := Fr.app N0 N1q
  refine own_go (T1.setTop (mkF m 3 #[.val (.ref o), .unset, .unset, .unset, .unset, .unset] [(.ref a_EM)])) (fun t_ k_ => st1 _ k_) ?_
  refine own_go (T1.setTop (mkF m 4 #[.val (.ref o), .val (.ref a_EM), .unset, .unset, .unset, .unset] [])) (fun t_ k_ => XS.astoreN X1.here hx rfl (hb hby own_d_prog_9_method_4_3) rfl rfl (l' := #[.val (.ref o), .val (.ref a_EM), .unset, .unset, .unset, .unset]) rfl k_) ?_
  obtain ⟨_, _, ⟨T2, Lu2, ku2, nu2⟩, -, X2, ⟨Lc2, hQ2, lu2, yu2, zu2⟩, st2⟩ := Jvm.LawKit.callS X1 hx (y := (⟨"com/example/tuplebag/tuplebag/bench/Workload", "values", "()[Lcom/example/tuplebag/tuplebag/bench/Workload;"⟩ : MethodName)) hown (mvT hZ (hw _ (List.mem_of_getElem? (i := 25) rfl))) (mvT hZ (hw _ (List.mem_of_getElem? (i := 26) rfl))) (mvT hZ (hw _ (List.mem_of_getElem? (i := 15) rfl))) (mvT hZ (hw _ (List.mem_of_getElem? (i := 27) rfl))) (by decide) (backOf (W := 0) (rm_va l Z a0 hw [] (a_OUT) (a__VALUES) (a_INP) (a_TAKE_COMPLETE) (a_OUT_text) (a_INP_text) (a_TAKE_COMPLETE_text) (a_OUT_text_value) (a_INP_text_value) (a_TAKE_COMPLETE_text_value) (a_EM) (k__VALUES) (k_OUT_text_value) (k_INP_text_value) (k_TAKE_COMPLETE_text_value) (cs0) h0 O w) hZ (hw _ (List.mem_of_getElem? (i := 27) rfl)) (hw _ (List.mem_of_getElem? (i := 15) rfl)) (by decide) (by decide)) (g := (mkF m 4 #[.val (.ref o), .val (.ref a_EM), .unset, .unset, .unset, .unset] [])) rfl (by rw [hml]; rfl) (argsL := []) (rest := []) (lenOf own_pd3 rfl) rfl (by show 2 * 0 + _ ≤ _; exact Nat.le_of_eq rfl) (hb hby own_d_prog_9_method_4_4) (fun _ _ => ⟨rfl, e1, (by decide : 0 + 1 ≤ _), (by decide : 0 + 3 ≤ _)⟩)
  dsimp only [Pt.U, Pt.locs, Pt.cells, Pt.slots] at X2 lu2 yu2 zu2 st2 hQ2
  subst lu2 yu2 zu2
  obtain ⟨r2, rfl, N2q, K2q, V2q⟩ := hQ2
  have N2 := Fr.app N1 N2q
  have O2 := own_extK O K2q all0
  have KK2 : Keep h0 T2.heap [] := (Keep.refl h0 []).trans K2q all0
  refine own_go (T2.setTop (mkF m 7 #[.val (.ref o), .val (.ref a_EM), .unset, .unset, .unset, .unset] [(.ref r2)])) (fun t_ k_ => st2 _ k_) ?_
  refine own_go (T2.setTop (mkF m 8 #[.val (.ref o), .val (.ref a_EM), .val (.ref r2), .unset, .unset, .unset] [])) (fun t_ k_ => XS.astoreN X2.here hx rfl (hb hby own_d_prog_9_method_4_7) rfl rfl (l' := #[.val (.ref o), .val (.ref a_EM), .val (.ref r2), .unset, .unset, .unset]) rfl k_) ?_
  refine own_go (T2.setTop (mkF m 9 #[.val (.ref o), .val (.ref a_EM), .val (.ref r2), .unset, .unset, .unset] [(.ref r2)])) (fun t_ k_ => XS.aloadN X2.here hx rfl (hb hby own_d_prog_9_method_4_8) rfl rfl k_) ?_
  obtain ⟨cl3, Ar3, q3, Sz3, Nz3, Hz3, Gz3⟩ := id (V2q)
  refine own_go (T2.setTop (mkF m 10 #[.val (.ref o), .val (.ref a_EM), .val (.ref r2), .unset, .unset, .unset] [(.int (3 : Int32))])) (fun t_ k_ => X2.arraylength hx Ar3.1 (State.isArrayOf_alike hZ.alike Ar3.2.1) (g := (mkF m 9 #[.val (.ref o), .val (.ref a_EM), .val (.ref r2), .unset, .unset, .unset] [(.ref r2)])) rfl rfl (hb hby own_d_prog_9_method_4_9) _ (by rw [len_of Sz3 Nz3]; exact k_)) ?_
  refine own_go (T2.setTop (mkF m 11 #[.val (.ref o), .val (.ref a_EM), .val (.ref r2), .val (.int (3 : Int32)), .unset, .unset] [])) (fun t_ k_ => XS.istoreN X2.here hx rfl (hb hby own_d_prog_9_method_4_10) rfl (l' := #[.val (.ref o), .val (.ref a_EM), .val (.ref r2), .val (.int (3 : Int32)), .unset, .unset]) rfl k_) ?_
  refine own_go (T2.setTop (mkF m 12 #[.val (.ref o), .val (.ref a_EM), .val (.ref r2), .val (.int (3 : Int32)), .unset, .unset] [(.int (0 : Int32))])) (fun t_ k_ => XS.iconst X2.here hx rfl (hb hby own_d_prog_9_method_4_11) k_) ?_
  refine own_go (T2.setTop (mkF m 14 #[.val (.ref o), .val (.ref a_EM), .val (.ref r2), .val (.int (3 : Int32)), .val (.int (0 : Int32)), .unset] [])) (fun t_ k_ => XS.istore X2.here hx rfl (hb hby own_d_prog_9_method_4_12) rfl (l' := #[.val (.ref o), .val (.ref a_EM), .val (.ref r2), .val (.int (3 : Int32)), .val (.int (0 : Int32)), .unset]) rfl k_) ?_
  refine own_go (T2.setTop (mkF m 16 #[.val (.ref o), .val (.ref a_EM), .val (.ref r2), .val (.int (3 : Int32)), .val (.int (0 : Int32)), .unset] [(.int (0 : Int32))])) (fun t_ k_ => XS.iload X2.here hx rfl (hb hby own_d_prog_9_method_4_14) rfl k_) ?_
  refine own_go (T2.setTop (mkF m 17 #[.val (.ref o), .val (.ref a_EM), .val (.ref r2), .val (.int (3 : Int32)), .val (.int (0 : Int32)), .unset] [(.int (3 : Int32)), (.int (0 : Int32))])) (fun t_ k_ => XS.iloadN X2.here hx rfl (hb hby own_d_prog_9_method_4_16) rfl k_) ?_
  refine own_go (T2.setTop (mkF m 20 #[.val (.ref o), .val (.ref a_EM), .val (.ref r2), .val (.int (3 : Int32)), .val (.int (0 : Int32)), .unset] [])) (fun t_ k_ => XS.icmpNo X2.here hx rfl (hb hby own_d_prog_9_method_4_17) rfl (tlt (by decide : (0 : Int32) < (3 : Int32))).2.1 k_) ?_
  refine own_go (T2.setTop (mkF m 21 #[.val (.ref o), .val (.ref a_EM), .val (.ref r2), .val (.int (3 : Int32)), .val (.int (0 : Int32)), .unset] [(.ref r2)])) (fun t_ k_ => XS.aloadN X2.here hx rfl (hb hby own_d_prog_9_method_4_20) rfl rfl k_) ?_
  refine own_go (T2.setTop (mkF m 23 #[.val (.ref o), .val (.ref a_EM), .val (.ref r2), .val (.int (3 : Int32)), .val (.int (0 : Int32)), .unset] [(.int (0 : Int32)), (.ref r2)])) (fun t_ k_ => XS.iload X2.here hx rfl (hb hby own_d_prog_9_method_4_21) rfl k_) ?_
  obtain ⟨cl4, Ar4, q4, Sz4, Nz4, Hz4, Gz4⟩ := id (V2q)
  have hin4 : ¬ ((0 : Int32) < 0 ∨ cl4.slots.size ≤ ((0 : Int32)).toNatClampNeg) := inb_of Sz4 ⟨by decide, by decide⟩
  have hat4 : cl4.slots[((0 : Int32)).toNatClampNeg]? = some (.ref a_OUT) := Hz4.at hin4 rfl
  refine own_go (T2.setTop (mkF m 24 #[.val (.ref o), .val (.ref a_EM), .val (.ref r2), .val (.int (3 : Int32)), .val (.int (0 : Int32)), .unset] [(.ref a_OUT)])) (fun t_ k_ => X2.aaload hx (j := (0 : Int32)) (v := (.ref a_OUT)) Ar4.1 (State.isArrayOf_alike hZ.alike Ar4.2.1) rfl Ar4.2.2 hin4 hat4 (g := (mkF m 23 #[.val (.ref o), .val (.ref a_EM), .val (.ref r2), .val (.int (3 : Int32)), .val (.int (0 : Int32)), .unset] [(.int (0 : Int32)), (.ref r2)])) rfl rfl (hb hby own_d_prog_9_method_4_23) _ k_) ?_
  refine own_go (T2.setTop (mkF m 26 #[.val (.ref o), .val (.ref a_EM), .val (.ref r2), .val (.int (3 : Int32)), .val (.int (0 : Int32)), .val (.ref a_OUT)] [])) (fun t_ k_ => XS.astore X2.here hx rfl (hb hby own_d_prog_9_method_4_24) rfl rfl (l' := #[.val (.ref o), .val (.ref a_EM), .val (.ref r2), .val (.int (3 : Int32)), .val (.int (0 : Int32)), .val (.ref a_OUT)]) rfl k_) ?_
  refine own_go (T2.setTop (mkF m 28 #[.val (.ref o), .val (.ref a_EM), .val (.ref r2), .val (.int (3 : Int32)), .val (.int (0 : Int32)), .val (.ref a_OUT)] [(.ref a_OUT)])) (fun t_ k_ => XS.aload X2.here hx rfl (hb hby own_d_prog_9_method_4_26) rfl rfl k_) ?_
  obtain ⟨T5, X5, e5, st5⟩ := getF X2 hx hZ hown (host := "") (Or.inl (hw _ (List.mem_of_getElem? (i := 42) rfl))) Via.refl rfl (F_OUT_text.ext O2) (g := (mkF m 28 #[.val (.ref o), .val (.ref a_EM), .val (.ref r2), .val (.int (3 : Int32)), .val (.int (0 : Int32)), .val (.ref a_OUT)] [(.ref a_OUT)])) rfl rfl (hb hby own_d_prog_9_method_4_28)
  refine own_go (T5.setTop (mkF m 31 #[.val (.ref o), .val (.ref a_EM), .val (.ref r2), .val (.int (3 : Int32)), .val (.int (0 : Int32)), .val (.ref a_OUT)] [(.ref a_OUT_text)])) (fun t_ k_ => st5 _ k_) ?_
  refine own_go (T5.setTop (mkF m 32 #[.val (.ref o), .val (.ref a_EM), .val (.ref r2), .val (.int (3 : Int32)), .val (.int (0 : Int32)), .val (.ref a_OUT)] [(.ref o), (.ref a_OUT_text)])) (fun t_ k_ => XS.aloadN X5.here hx rfl (hb hby own_d_prog_9_method_4_31) rfl rfl k_) ?_
  have Fz7 := (Xo.keep K2q)
  have Fz8 := (Fv.keep K2q nin0)
  have Fz9 := (Fc.keep K2q nin0)
  have Fz10 := (Fa.keep K2q nin0)
  obtain ⟨cq6, kq6, q6a, q6b, q6c⟩ := isOf hZ e5 (X_OUT_text.ext O2)
  obtain ⟨_, _, ⟨T6, Lu6, ku6, nu6⟩, -, X6, ⟨Lc6, hQ6, lu6, yu6, zu6⟩, st6⟩ := X5.virtualBack hx (y := (⟨"java/lang/String", "equals", "(Ljava/lang/Object;)Z"⟩ : MethodName)) (z := (⟨"java/lang/String", "equals", "(Ljava/lang/Object;)Z"⟩ : MethodName)) hown (mvT hZ (hw _ (List.mem_of_getElem? (i := 44) rfl))) (mvT hZ (hw _ (List.mem_of_getElem? (i := 10) rfl))) (notFace_of_selects (args := #[]) (mvT hZ (hw _ (List.mem_of_getElem? (i := 12) rfl)))) (mvT hZ (hw _ (List.mem_of_getElem? (i := 12) rfl))) (mvT hZ (hw _ (List.mem_of_getElem? (i := 11) rfl))) (by decide) (StrChars.Road.eqW (W := 0) hZ (fun d hd => hw d (own_wordsEq d hd)) (kI := 4) (hw _ (List.mem_of_getElem? (i := 3) rfl)) (X_OUT_text.ext O2) (F_OUT_text_value.ext O2) (F_OUT_text_coder.ext O2) (V_OUT_text_value.ext O2) (cs := ([111, 117, 116] : List Int32)) (own_cod ([111, 117, 116] : List Int32) own_hp_OUT) (own_up _ own_hp_OUT) (by decide) Fz7 Fz8 Fz9 Fz10 hcd hbd hl (S_CS.ext O2) n_CS (by decide) (by decide)) q6a q6c (g := (mkF m 32 #[.val (.ref o), .val (.ref a_EM), .val (.ref r2), .val (.int (3 : Int32)), .val (.int (0 : Int32)), .val (.ref a_OUT)] [(.ref o), (.ref a_OUT_text)])) rfl (by rw [hml]; rfl) (Steps.refl _) (argsL := [(.ref o)]) (rest := []) (lenOf own_pd4 rfl) rfl (by show 2 * 0 + _ ≤ _; exact Nat.le_of_eq rfl) (hb hby own_d_prog_9_method_4_32) (fun _ _ => ⟨rfl, e5, (by decide : 1 + 0 ≤ _), (by decide : 3 + 0 ≤ _)⟩)
  dsimp only [Pt.U, Pt.locs, Pt.cells, Pt.slots] at X6 lu6 yu6 zu6 st6 hQ6
  subst lu6 yu6 zu6
  obtain ⟨hcase6, rfl, e6⟩ := hQ6
  have N6q : Fr Z.heap.size ([] : List Loc) := Fr.nil _
  have N6 := Fr.app N2 N6q
  have hv6 := hcase6.elim (fun q => absurd q.2 (by rw [hq] <;> decide)) (fun q => q.1)
  subst hv6
  refine own_go (T6.setTop (mkF m 35 #[.val (.ref o), .val (.ref a_EM), .val (.ref r2), .val (.int (3 : Int32)), .val (.int (0 : Int32)), .val (.ref a_OUT)] [(.int (0 : Int32))])) (fun t_ k_ => st6.trans k_) ?_
  refine own_go (T6.setTop (mkF m 44 #[.val (.ref o), .val (.ref a_EM), .val (.ref r2), .val (.int (3 : Int32)), .val (.int (0 : Int32)), .val (.ref a_OUT)] [])) (fun t_ k_ => XS.ifYes X6.here hx rfl (pc0 := 35) (pc' := 44) rfl (hb hby own_d_prog_9_method_4_35) rfl ((if0 _ _).trans (teq (by decide : (0 : Int32) = (0 : Int32))).1) (by decide) (by decide) k_) ?_
  refine own_go (T6.setTop (mkF m 47 #[.val (.ref o), .val (.ref a_EM), .val (.ref r2), .val (.int (3 : Int32)), .val (.int ((0 : Int32) + (1 : Int32))), .val (.ref a_OUT)] [])) (fun t_ k_ => XS.iinc X6.here hx rfl (hb hby own_d_prog_9_method_4_44) rfl (l' := #[.val (.ref o), .val (.ref a_EM), .val (.ref r2), .val (.int (3 : Int32)), .val (.int ((0 : Int32) + (1 : Int32))), .val (.ref a_OUT)]) rfl k_) ?_
  rw [show ((0 : Int32) + (1 : Int32)) = (1 : Int32) from by decide]
  refine own_go (T6.setTop (mkF m 14 #[.val (.ref o), .val (.ref a_EM), .val (.ref r2), .val (.int (3 : Int32)), .val (.int (1 : Int32)), .val (.ref a_OUT)] [])) (fun t_ k_ => XS.goto X6.here hx rfl (pc0 := 47) (pc' := 14) rfl (hb hby own_d_prog_9_method_4_47) (by decide) (by decide) k_) ?_
  refine own_go (T6.setTop (mkF m 16 #[.val (.ref o), .val (.ref a_EM), .val (.ref r2), .val (.int (3 : Int32)), .val (.int (1 : Int32)), .val (.ref a_OUT)] [(.int (1 : Int32))])) (fun t_ k_ => XS.iload X6.here hx rfl (hb hby own_d_prog_9_method_4_14) rfl k_) ?_
  refine own_go (T6.setTop (mkF m 17 #[.val (.ref o), .val (.ref a_EM), .val (.ref r2), .val (.int (3 : Int32)), .val (.int (1 : Int32)), .val (.ref a_OUT)] [(.int (3 : Int32)), (.int (1 : Int32))])) (fun t_ k_ => XS.iloadN X6.here hx rfl (hb hby own_d_prog_9_method_4_16) rfl k_) ?_
  refine own_go (T6.setTop (mkF m 20 #[.val (.ref o), .val (.ref a_EM), .val (.ref r2), .val (.int (3 : Int32)), .val (.int (1 : Int32)), .val (.ref a_OUT)] [])) (fun t_ k_ => XS.icmpNo X6.here hx rfl (hb hby own_d_prog_9_method_4_17) rfl (tlt (by decide : (1 : Int32) < (3 : Int32))).2.1 k_) ?_
  refine own_go (T6.setTop (mkF m 21 #[.val (.ref o), .val (.ref a_EM), .val (.ref r2), .val (.int (3 : Int32)), .val (.int (1 : Int32)), .val (.ref a_OUT)] [(.ref r2)])) (fun t_ k_ => XS.aloadN X6.here hx rfl (hb hby own_d_prog_9_method_4_20) rfl rfl k_) ?_
  refine own_go (T6.setTop (mkF m 23 #[.val (.ref o), .val (.ref a_EM), .val (.ref r2), .val (.int (3 : Int32)), .val (.int (1 : Int32)), .val (.ref a_OUT)] [(.int (1 : Int32)), (.ref r2)])) (fun t_ k_ => XS.iload X6.here hx rfl (hb hby own_d_prog_9_method_4_21) rfl k_) ?_
  obtain ⟨cl11, Ar11, q11, Sz11, Nz11, Hz11, Gz11⟩ := id (V2q)
  have hin11 : ¬ ((1 : Int32) < 0 ∨ cl11.slots.size ≤ ((1 : Int32)).toNatClampNeg) := inb_of Sz11 ⟨by decide, by decide⟩
  have hat11 : cl11.slots[((1 : Int32)).toNatClampNeg]? = some (.ref a_INP) := Hz11.at hin11 rfl
  refine own_go (T6.setTop (mkF m 24 #[.val (.ref o), .val (.ref a_EM), .val (.ref r2), .val (.int (3 : Int32)), .val (.int (1 : Int32)), .val (.ref a_OUT)] [(.ref a_INP)])) (fun t_ k_ => X6.aaload hx (j := (1 : Int32)) (v := (.ref a_INP)) (by rw [e6]; exact Ar11.1) (State.isArrayOf_alike hZ.alike Ar11.2.1) rfl Ar11.2.2 hin11 hat11 (g := (mkF m 23 #[.val (.ref o), .val (.ref a_EM), .val (.ref r2), .val (.int (3 : Int32)), .val (.int (1 : Int32)), .val (.ref a_OUT)] [(.int (1 : Int32)), (.ref r2)])) rfl rfl (hb hby own_d_prog_9_method_4_23) _ k_) ?_
  refine own_go (T6.setTop (mkF m 26 #[.val (.ref o), .val (.ref a_EM), .val (.ref r2), .val (.int (3 : Int32)), .val (.int (1 : Int32)), .val (.ref a_INP)] [])) (fun t_ k_ => XS.astore X6.here hx rfl (hb hby own_d_prog_9_method_4_24) rfl rfl (l' := #[.val (.ref o), .val (.ref a_EM), .val (.ref r2), .val (.int (3 : Int32)), .val (.int (1 : Int32)), .val (.ref a_INP)]) rfl k_) ?_
  refine own_go (T6.setTop (mkF m 28 #[.val (.ref o), .val (.ref a_EM), .val (.ref r2), .val (.int (3 : Int32)), .val (.int (1 : Int32)), .val (.ref a_INP)] [(.ref a_INP)])) (fun t_ k_ => XS.aload X6.here hx rfl (hb hby own_d_prog_9_method_4_26) rfl rfl k_) ?_
  obtain ⟨T12, X12, e12, st12⟩ := getF X6 hx hZ hown (host := "") (Or.inl (hw _ (List.mem_of_getElem? (i := 42) rfl))) Via.refl e6 (F_INP_text.ext O2) (g := (mkF m 28 #[.val (.ref o), .val (.ref a_EM), .val (.ref r2), .val (.int (3 : Int32)), .val (.int (1 : Int32)), .val (.ref a_INP)] [(.ref a_INP)])) rfl rfl (hb hby own_d_prog_9_method_4_28)
  refine own_go (T12.setTop (mkF m 31 #[.val (.ref o), .val (.ref a_EM), .val (.ref r2), .val (.int (3 : Int32)), .val (.int (1 : Int32)), .val (.ref a_INP)] [(.ref a_INP_text)])) (fun t_ k_ => st12 _ k_) ?_
  refine own_go (T12.setTop (mkF m 32 #[.val (.ref o), .val (.ref a_EM), .val (.ref r2), .val (.int (3 : Int32)), .val (.int (1 : Int32)), .val (.ref a_INP)] [(.ref o), (.ref a_INP_text)])) (fun t_ k_ => XS.aloadN X12.here hx rfl (hb hby own_d_prog_9_method_4_31) rfl rfl k_) ?_
  obtain ⟨cq13, kq13, q13a, q13b, q13c⟩ := isOf hZ e12 (X_INP_text.ext O2)
  obtain ⟨_, _, ⟨T13, Lu13, ku13, nu13⟩, -, X13, ⟨Lc13, hQ13, lu13, yu13, zu13⟩, st13⟩ := X12.virtualBack hx (y := (⟨"java/lang/String", "equals", "(Ljava/lang/Object;)Z"⟩ : MethodName)) (z := (⟨"java/lang/String", "equals", "(Ljava/lang/Object;)Z"⟩ : MethodName)) hown (mvT hZ (hw _ (List.mem_of_getElem? (i := 44) rfl))) (mvT hZ (hw _ (List.mem_of_getElem? (i := 10) rfl))) (notFace_of_selects (args := #[]) (mvT hZ (hw _ (List.mem_of_getElem? (i := 12) rfl)))) (mvT hZ (hw _ (List.mem_of_getElem? (i := 12) rfl))) (mvT hZ (hw _ (List.mem_of_getElem? (i := 11) rfl))) (by decide) (StrChars.Road.eqW (W := 0) hZ (fun d hd => hw d (own_wordsEq d hd)) (kI := 4) (hw _ (List.mem_of_getElem? (i := 3) rfl)) (X_INP_text.ext O2) (F_INP_text_value.ext O2) (F_INP_text_coder.ext O2) (V_INP_text_value.ext O2) (cs := ([105, 110, 112] : List Int32)) (own_cod ([105, 110, 112] : List Int32) own_hp_INP) (own_up _ own_hp_INP) (by decide) Fz7 Fz8 Fz9 Fz10 hcd hbd hl (S_CS.ext O2) n_CS (by decide) (by decide)) q13a q13c (g := (mkF m 32 #[.val (.ref o), .val (.ref a_EM), .val (.ref r2), .val (.int (3 : Int32)), .val (.int (1 : Int32)), .val (.ref a_INP)] [(.ref o), (.ref a_INP_text)])) rfl (by rw [hml]; rfl) (Steps.refl _) (argsL := [(.ref o)]) (rest := []) (lenOf own_pd4 rfl) rfl (by show 2 * 0 + _ ≤ _; exact Nat.le_of_eq rfl) (hb hby own_d_prog_9_method_4_32) (fun _ _ => ⟨rfl, e12, (by decide : 1 + 0 ≤ _), (by decide : 3 + 0 ≤ _)⟩)
  dsimp only [Pt.U, Pt.locs, Pt.cells, Pt.slots] at X13 lu13 yu13 zu13 st13 hQ13
  subst lu13 yu13 zu13
  obtain ⟨hcase13, rfl, e13⟩ := hQ13
  have N13q : Fr Z.heap.size ([] : List Loc) := Fr.nil _
  have N13 := Fr.app N6 N13q
  have hv13 := hcase13.elim (fun q => absurd q.2 (by rw [hq] <;> decide)) (fun q => q.1)
  subst hv13
  refine own_go (T13.setTop (mkF m 35 #[.val (.ref o), .val (.ref a_EM), .val (.ref r2), .val (.int (3 : Int32)), .val (.int (1 : Int32)), .val (.ref a_INP)] [(.int (0 : Int32))])) (fun t_ k_ => st13.trans k_) ?_
  refine own_go (T13.setTop (mkF m 44 #[.val (.ref o), .val (.ref a_EM), .val (.ref r2), .val (.int (3 : Int32)), .val (.int (1 : Int32)), .val (.ref a_INP)] [])) (fun t_ k_ => XS.ifYes X13.here hx rfl (pc0 := 35) (pc' := 44) rfl (hb hby own_d_prog_9_method_4_35) rfl ((if0 _ _).trans (teq (by decide : (0 : Int32) = (0 : Int32))).1) (by decide) (by decide) k_) ?_
  refine own_go (T13.setTop (mkF m 47 #[.val (.ref o), .val (.ref a_EM), .val (.ref r2), .val (.int (3 : Int32)), .val (.int ((1 : Int32) + (1 : Int32))), .val (.ref a_INP)] [])) (fun t_ k_ => XS.iinc X13.here hx rfl (hb hby own_d_prog_9_method_4_44) rfl (l' := #[.val (.ref o), .val (.ref a_EM), .val (.ref r2), .val (.int (3 : Int32)), .val (.int ((1 : Int32) + (1 : Int32))), .val (.ref a_INP)]) rfl k_) ?_
  rw [show ((1 : Int32) + (1 : Int32)) = (2 : Int32) from by decide]
  refine own_go (T13.setTop (mkF m 14 #[.val (.ref o), .val (.ref a_EM), .val (.ref r2), .val (.int (3 : Int32)), .val (.int (2 : Int32)), .val (.ref a_INP)] [])) (fun t_ k_ => XS.goto X13.here hx rfl (pc0 := 47) (pc' := 14) rfl (hb hby own_d_prog_9_method_4_47) (by decide) (by decide) k_) ?_
  refine own_go (T13.setTop (mkF m 16 #[.val (.ref o), .val (.ref a_EM), .val (.ref r2), .val (.int (3 : Int32)), .val (.int (2 : Int32)), .val (.ref a_INP)] [(.int (2 : Int32))])) (fun t_ k_ => XS.iload X13.here hx rfl (hb hby own_d_prog_9_method_4_14) rfl k_) ?_
  refine own_go (T13.setTop (mkF m 17 #[.val (.ref o), .val (.ref a_EM), .val (.ref r2), .val (.int (3 : Int32)), .val (.int (2 : Int32)), .val (.ref a_INP)] [(.int (3 : Int32)), (.int (2 : Int32))])) (fun t_ k_ => XS.iloadN X13.here hx rfl (hb hby own_d_prog_9_method_4_16) rfl k_) ?_
  refine own_go (T13.setTop (mkF m 20 #[.val (.ref o), .val (.ref a_EM), .val (.ref r2), .val (.int (3 : Int32)), .val (.int (2 : Int32)), .val (.ref a_INP)] [])) (fun t_ k_ => XS.icmpNo X13.here hx rfl (hb hby own_d_prog_9_method_4_17) rfl (tlt (by decide : (2 : Int32) < (3 : Int32))).2.1 k_) ?_
  refine own_go (T13.setTop (mkF m 21 #[.val (.ref o), .val (.ref a_EM), .val (.ref r2), .val (.int (3 : Int32)), .val (.int (2 : Int32)), .val (.ref a_INP)] [(.ref r2)])) (fun t_ k_ => XS.aloadN X13.here hx rfl (hb hby own_d_prog_9_method_4_20) rfl rfl k_) ?_
  refine own_go (T13.setTop (mkF m 23 #[.val (.ref o), .val (.ref a_EM), .val (.ref r2), .val (.int (3 : Int32)), .val (.int (2 : Int32)), .val (.ref a_INP)] [(.int (2 : Int32)), (.ref r2)])) (fun t_ k_ => XS.iload X13.here hx rfl (hb hby own_d_prog_9_method_4_21) rfl k_) ?_
  obtain ⟨cl14, Ar14, q14, Sz14, Nz14, Hz14, Gz14⟩ := id (V2q)
  have hin14 : ¬ ((2 : Int32) < 0 ∨ cl14.slots.size ≤ ((2 : Int32)).toNatClampNeg) := inb_of Sz14 ⟨by decide, by decide⟩
  have hat14 : cl14.slots[((2 : Int32)).toNatClampNeg]? = some (.ref a_TAKE_COMPLETE) := Hz14.at hin14 rfl
  refine own_go (T13.setTop (mkF m 24 #[.val (.ref o), .val (.ref a_EM), .val (.ref r2), .val (.int (3 : Int32)), .val (.int (2 : Int32)), .val (.ref a_INP)] [(.ref a_TAKE_COMPLETE)])) (fun t_ k_ => X13.aaload hx (j := (2 : Int32)) (v := (.ref a_TAKE_COMPLETE)) (by rw [e13]; exact Ar14.1) (State.isArrayOf_alike hZ.alike Ar14.2.1) rfl Ar14.2.2 hin14 hat14 (g := (mkF m 23 #[.val (.ref o), .val (.ref a_EM), .val (.ref r2), .val (.int (3 : Int32)), .val (.int (2 : Int32)), .val (.ref a_INP)] [(.int (2 : Int32)), (.ref r2)])) rfl rfl (hb hby own_d_prog_9_method_4_23) _ k_) ?_
  refine own_go (T13.setTop (mkF m 26 #[.val (.ref o), .val (.ref a_EM), .val (.ref r2), .val (.int (3 : Int32)), .val (.int (2 : Int32)), .val (.ref a_TAKE_COMPLETE)] [])) (fun t_ k_ => XS.astore X13.here hx rfl (hb hby own_d_prog_9_method_4_24) rfl rfl (l' := #[.val (.ref o), .val (.ref a_EM), .val (.ref r2), .val (.int (3 : Int32)), .val (.int (2 : Int32)), .val (.ref a_TAKE_COMPLETE)]) rfl k_) ?_
  refine own_go (T13.setTop (mkF m 28 #[.val (.ref o), .val (.ref a_EM), .val (.ref r2), .val (.int (3 : Int32)), .val (.int (2 : Int32)), .val (.ref a_TAKE_COMPLETE)] [(.ref a_TAKE_COMPLETE)])) (fun t_ k_ => XS.aload X13.here hx rfl (hb hby own_d_prog_9_method_4_26) rfl rfl k_) ?_
  obtain ⟨T15, X15, e15, st15⟩ := getF X13 hx hZ hown (host := "") (Or.inl (hw _ (List.mem_of_getElem? (i := 42) rfl))) Via.refl e13 (F_TAKE_COMPLETE_text.ext O2) (g := (mkF m 28 #[.val (.ref o), .val (.ref a_EM), .val (.ref r2), .val (.int (3 : Int32)), .val (.int (2 : Int32)), .val (.ref a_TAKE_COMPLETE)] [(.ref a_TAKE_COMPLETE)])) rfl rfl (hb hby own_d_prog_9_method_4_28)
  refine own_go (T15.setTop (mkF m 31 #[.val (.ref o), .val (.ref a_EM), .val (.ref r2), .val (.int (3 : Int32)), .val (.int (2 : Int32)), .val (.ref a_TAKE_COMPLETE)] [(.ref a_TAKE_COMPLETE_text)])) (fun t_ k_ => st15 _ k_) ?_
  refine own_go (T15.setTop (mkF m 32 #[.val (.ref o), .val (.ref a_EM), .val (.ref r2), .val (.int (3 : Int32)), .val (.int (2 : Int32)), .val (.ref a_TAKE_COMPLETE)] [(.ref o), (.ref a_TAKE_COMPLETE_text)])) (fun t_ k_ => XS.aloadN X15.here hx rfl (hb hby own_d_prog_9_method_4_31) rfl rfl k_) ?_
  obtain ⟨cq16, kq16, q16a, q16b, q16c⟩ := isOf hZ e15 (X_TAKE_COMPLETE_text.ext O2)
  obtain ⟨_, _, ⟨T16, Lu16, ku16, nu16⟩, -, X16, ⟨Lc16, hQ16, lu16, yu16, zu16⟩, st16⟩ := X15.virtualBack hx (y := (⟨"java/lang/String", "equals", "(Ljava/lang/Object;)Z"⟩ : MethodName)) (z := (⟨"java/lang/String", "equals", "(Ljava/lang/Object;)Z"⟩ : MethodName)) hown (mvT hZ (hw _ (List.mem_of_getElem? (i := 44) rfl))) (mvT hZ (hw _ (List.mem_of_getElem? (i := 10) rfl))) (notFace_of_selects (args := #[]) (mvT hZ (hw _ (List.mem_of_getElem? (i := 12) rfl)))) (mvT hZ (hw _ (List.mem_of_getElem? (i := 12) rfl))) (mvT hZ (hw _ (List.mem_of_getElem? (i := 11) rfl))) (by decide) (StrChars.Road.eqW (W := 0) hZ (fun d hd => hw d (own_wordsEq d hd)) (kI := 4) (hw _ (List.mem_of_getElem? (i := 3) rfl)) (X_TAKE_COMPLETE_text.ext O2) (F_TAKE_COMPLETE_text_value.ext O2) (F_TAKE_COMPLETE_text_coder.ext O2) (V_TAKE_COMPLETE_text_value.ext O2) (cs := ([116, 97, 107, 101, 45, 99, 111, 109, 112, 108, 101, 116, 101] : List Int32)) (own_cod ([116, 97, 107, 101, 45, 99, 111, 109, 112, 108, 101, 116, 101] : List Int32) own_hp_TAKE_COMPLETE) (own_up _ own_hp_TAKE_COMPLETE) (by decide) Fz7 Fz8 Fz9 Fz10 hcd hbd hl (S_CS.ext O2) n_CS (by decide) (by decide)) q16a q16c (g := (mkF m 32 #[.val (.ref o), .val (.ref a_EM), .val (.ref r2), .val (.int (3 : Int32)), .val (.int (2 : Int32)), .val (.ref a_TAKE_COMPLETE)] [(.ref o), (.ref a_TAKE_COMPLETE_text)])) rfl (by rw [hml]; rfl) (Steps.refl _) (argsL := [(.ref o)]) (rest := []) (lenOf own_pd4 rfl) rfl (by show 2 * 0 + _ ≤ _; exact Nat.le_of_eq rfl) (hb hby own_d_prog_9_method_4_32) (fun _ _ => ⟨rfl, e15, (by decide : 1 + 0 ≤ _), (by decide : 3 + 0 ≤ _)⟩)
  dsimp only [Pt.U, Pt.locs, Pt.cells, Pt.slots] at X16 lu16 yu16 zu16 st16 hQ16
  subst lu16 yu16 zu16
  obtain ⟨hcase16, rfl, e16⟩ := hQ16
  have N16q : Fr Z.heap.size ([] : List Loc) := Fr.nil _
  have N16 := Fr.app N13 N16q
  have hv16 := hcase16.elim (fun q => q.1) (fun q => absurd (hq.symm) q.2)
  subst hv16
  refine own_go (T16.setTop (mkF m 35 #[.val (.ref o), .val (.ref a_EM), .val (.ref r2), .val (.int (3 : Int32)), .val (.int (2 : Int32)), .val (.ref a_TAKE_COMPLETE)] [(.int (1 : Int32))])) (fun t_ k_ => st16.trans k_) ?_
  refine own_go (T16.setTop (mkF m 38 #[.val (.ref o), .val (.ref a_EM), .val (.ref r2), .val (.int (3 : Int32)), .val (.int (2 : Int32)), .val (.ref a_TAKE_COMPLETE)] [])) (fun t_ k_ => XS.ifNo X16.here hx rfl (hb hby own_d_prog_9_method_4_35) rfl ((if0 _ _).trans (feq (by decide : ¬ ((1 : Int32) = (0 : Int32)))).1) k_) ?_
  refine own_go (T16.setTop (mkF m 40 #[.val (.ref o), .val (.ref a_EM), .val (.ref r2), .val (.int (3 : Int32)), .val (.int (2 : Int32)), .val (.ref a_TAKE_COMPLETE)] [(.ref a_TAKE_COMPLETE)])) (fun t_ k_ => XS.aload X16.here hx rfl (hb hby own_d_prog_9_method_4_38) rfl rfl k_) ?_
  obtain ⟨_, _, ⟨T17, Lu17, ku17, nu17⟩, -, X17, ⟨Lc17, hQ17, lu17, yu17, zu17⟩, st17⟩ := Jvm.LawKit.callS X16 hx (y := (⟨"java/util/Optional", "of", "(Ljava/lang/Object;)Ljava/util/Optional;"⟩ : MethodName)) hown (mvT hZ (hw _ (List.mem_of_getElem? (i := 54) rfl))) (mvT hZ (hw _ (List.mem_of_getElem? (i := 55) rfl))) (mvT hZ (hw _ (List.mem_of_getElem? (i := 22) rfl))) (mvT hZ (hw _ (List.mem_of_getElem? (i := 56) rfl))) (by decide) (backOf (W := 0) (rm_oo l Z a0 hw [] (a_TAKE_COMPLETE) T2.heap O2 ) hZ (hw _ (List.mem_of_getElem? (i := 56) rfl)) (hw _ (List.mem_of_getElem? (i := 22) rfl)) (by decide) (by decide)) (g := (mkF m 40 #[.val (.ref o), .val (.ref a_EM), .val (.ref r2), .val (.int (3 : Int32)), .val (.int (2 : Int32)), .val (.ref a_TAKE_COMPLETE)] [(.ref a_TAKE_COMPLETE)])) rfl (by rw [hml]; rfl) (argsL := [(.ref a_TAKE_COMPLETE)]) (rest := []) (lenOf own_pd5 rfl) rfl (by show 2 * 0 + _ ≤ _; exact Nat.le_of_eq rfl) (hb hby own_d_prog_9_method_4_40) (fun _ _ => ⟨rfl, e16, (by decide : 1 + 1 ≤ _), (by decide : 3 + 1 ≤ _)⟩)
  dsimp only [Pt.U, Pt.locs, Pt.cells, Pt.slots] at X17 lu17 yu17 zu17 st17 hQ17
  subst lu17 yu17 zu17
  obtain ⟨r17, rfl, N17q, K17q, X17q, F17q⟩ := hQ17
  have N17 := Fr.app N16 N17q
  have O17 := own_extK O2 K17q all0
  have KK17 : Keep h0 T17.heap [] := KK2.trans K17q all0
  refine own_go (T17.setTop (mkF m 43 #[.val (.ref o), .val (.ref a_EM), .val (.ref r2), .val (.int (3 : Int32)), .val (.int (2 : Int32)), .val (.ref a_TAKE_COMPLETE)] [(.ref r17)])) (fun t_ k_ => st17 _ k_) ?_
  refine own_go (T17.setTop (mkF m 44 #[.val (.ref o), .val (.ref r17), .val (.ref r2), .val (.int (3 : Int32)), .val (.int (2 : Int32)), .val (.ref a_TAKE_COMPLETE)] [])) (fun t_ k_ => XS.astoreN X17.here hx rfl (hb hby own_d_prog_9_method_4_43) rfl rfl (l' := #[.val (.ref o), .val (.ref r17), .val (.ref r2), .val (.int (3 : Int32)), .val (.int (2 : Int32)), .val (.ref a_TAKE_COMPLETE)]) rfl k_) ?_
  refine own_go (T17.setTop (mkF m 47 #[.val (.ref o), .val (.ref r17), .val (.ref r2), .val (.int (3 : Int32)), .val (.int ((2 : Int32) + (1 : Int32))), .val (.ref a_TAKE_COMPLETE)] [])) (fun t_ k_ => XS.iinc X17.here hx rfl (hb hby own_d_prog_9_method_4_44) rfl (l' := #[.val (.ref o), .val (.ref r17), .val (.ref r2), .val (.int (3 : Int32)), .val (.int ((2 : Int32) + (1 : Int32))), .val (.ref a_TAKE_COMPLETE)]) rfl k_) ?_
  rw [show ((2 : Int32) + (1 : Int32)) = (3 : Int32) from by decide]
  refine own_go (T17.setTop (mkF m 14 #[.val (.ref o), .val (.ref r17), .val (.ref r2), .val (.int (3 : Int32)), .val (.int (3 : Int32)), .val (.ref a_TAKE_COMPLETE)] [])) (fun t_ k_ => XS.goto X17.here hx rfl (pc0 := 47) (pc' := 14) rfl (hb hby own_d_prog_9_method_4_47) (by decide) (by decide) k_) ?_
  refine own_go (T17.setTop (mkF m 16 #[.val (.ref o), .val (.ref r17), .val (.ref r2), .val (.int (3 : Int32)), .val (.int (3 : Int32)), .val (.ref a_TAKE_COMPLETE)] [(.int (3 : Int32))])) (fun t_ k_ => XS.iload X17.here hx rfl (hb hby own_d_prog_9_method_4_14) rfl k_) ?_
  refine own_go (T17.setTop (mkF m 17 #[.val (.ref o), .val (.ref r17), .val (.ref r2), .val (.int (3 : Int32)), .val (.int (3 : Int32)), .val (.ref a_TAKE_COMPLETE)] [(.int (3 : Int32)), (.int (3 : Int32))])) (fun t_ k_ => XS.iloadN X17.here hx rfl (hb hby own_d_prog_9_method_4_16) rfl k_) ?_
  refine own_go (T17.setTop (mkF m 50 #[.val (.ref o), .val (.ref r17), .val (.ref r2), .val (.int (3 : Int32)), .val (.int (3 : Int32)), .val (.ref a_TAKE_COMPLETE)] [])) (fun t_ k_ => XS.icmpYes X17.here hx rfl (pc0 := 17) (pc' := 50) rfl (hb hby own_d_prog_9_method_4_17) rfl (flt (by decide : ¬ ((3 : Int32) < (3 : Int32)))).2.1 (by decide) (by decide) k_) ?_
  refine own_go (T17.setTop (mkF m 51 #[.val (.ref o), .val (.ref r17), .val (.ref r2), .val (.int (3 : Int32)), .val (.int (3 : Int32)), .val (.ref a_TAKE_COMPLETE)] [(.ref r17)])) (fun t_ k_ => XS.aloadN X17.here hx rfl (hb hby own_d_prog_9_method_4_50) rfl rfl k_) ?_
  obtain ⟨fs, hr, hrun, hended, hW, hsame⟩ := X17.leave (v := some (.ref r17)) (fun h => by rw [Bd.returns] at h; cases h)
  refine ⟨_, _, Jvm.RoadKit.retOut X17 hx Bd.returns rfl (Or.inr (Or.inr (Or.inr (Or.inr ⟨rfl, rfl, rfl⟩)))) (hb hby own_d_prog_9_method_4_51) hr, hrun, hended, _, _, rfl, ?_, ⟨_, rfl⟩, hW, hsame.mono (by decide) (by decide)⟩
  show Q_nd_TAKE_COMPLETE Z o t1 kb cs a_OUT a__VALUES a_INP a_TAKE_COMPLETE a_OUT_text a_INP_text a_TAKE_COMPLETE_text a_OUT_text_value a_INP_text_value a_TAKE_COMPLETE_text_value a_EM k__VALUES k_OUT_text_value k_INP_text_value k_TAKE_COMPLETE_text_value cs0 h0 _ T17.heap _
  rw [show T17.heap = T17.heap from rfl]
  exact ⟨_, rfl, N17, KK17, X17q, F17q⟩
theorem own_ef_nd_none (m : MethodId) (o : Addr) : entryFrame m #[(.ref o)] 6 = mkF m 0 #[.val (.ref o), .unset, .unset, .unset, .unset, .unset] [] := by first | (simp [entryFrame, mkF, argsToLocals, Value.category]; done) | rfl
def Q_nd_none (Z : State) (o : Addr) (t1 : Addr) (kb : ClassId) (cs : List Int32) (a_OUT : Addr) (a__VALUES : Addr) (a_INP : Addr) (a_TAKE_COMPLETE : Addr) (a_OUT_text : Addr) (a_INP_text : Addr) (a_TAKE_COMPLETE_text : Addr) (a_OUT_text_value : Addr) (a_INP_text_value : Addr) (a_TAKE_COMPLETE_text_value : Addr) (a_EM : Addr) (k__VALUES : ClassId) (k_OUT_text_value : ClassId) (k_INP_text_value : ClassId) (k_TAKE_COMPLETE_text_value : ClassId) (cs0 : Int32) (h0 : Heap) (v_ : Option Value) (h : Heap) (L_ : List Loc) : Prop := ∃ (r : Addr), v_ = some (.ref r) ∧ Fr Z.heap.size L_ ∧ (Keep h0 h [] ∧ Exa Z h r "java/util/Optional" ∧ Fld Z h r "java/util/Optional" "value" "Ljava/lang/Object;" .null)
set_option maxRecDepth 65536 in
set_option maxHeartbeats 40000000 in
theorem rm_nd_none (l : Launch) (Z : State) (a0 : Array Value) (hw : ∀ d ∈ tables_1, d.before a0 Z = true) (ws : List Jvm.Cond) (o : Addr) (t1 : Addr) (kb : ClassId) (cs : List Int32) (a_OUT : Addr) (a__VALUES : Addr) (a_INP : Addr) (a_TAKE_COMPLETE : Addr) (a_OUT_text : Addr) (a_INP_text : Addr) (a_TAKE_COMPLETE_text : Addr) (a_OUT_text_value : Addr) (a_INP_text_value : Addr) (a_TAKE_COMPLETE_text_value : Addr) (a_EM : Addr) (k__VALUES : ClassId) (k_OUT_text_value : ClassId) (k_INP_text_value : ClassId) (k_TAKE_COMPLETE_text_value : ClassId) (cs0 : Int32) (h0 : Heap) (O : Ext Z.heap h0) (w : own_W Z a_OUT a__VALUES a_INP a_TAKE_COMPLETE a_OUT_text a_INP_text a_TAKE_COMPLETE_text a_OUT_text_value a_INP_text_value a_TAKE_COMPLETE_text_value a_EM k__VALUES k_OUT_text_value k_INP_text_value k_TAKE_COMPLETE_text_value cs0) (Xo : Exa Z h0 o "java/lang/String") (Fv : Fld Z h0 o "java/lang/String" "value" "[B" (.ref t1)) (Fc : Fld Z h0 o "java/lang/String" "coder" "B" (.int 0)) (Fa : Arv Z h0 t1 kb .byte (Int32.ofNat cs.length) ((cs.map (fun c => c.toInt8.toInt32)).map Value.int) (.int 0)) (hp : ∀ c ∈ cs, ¬ c < 0 ∧ ¬ (255 : Int32) < c) (hl : cs.length ≤ 4000) (hq_OUT : ¬ cs = ([111, 117, 116] : List Int32)) (hq_INP : ¬ cs = ([105, 110, 112] : List Int32)) (hq_TAKE_COMPLETE : ¬ cs = ([116, 97, 107, 101, 45, 99, 111, 109, 112, 108, 101, 116, 101] : List Int32)) :
    MetFree l (⟨"com/example/tuplebag/tuplebag/bench/Workload", "named", "(Ljava/lang/String;)Ljava/util/Optional;"⟩ : MethodName) (head1 (Jvm.Cond.code (⟨"com/example/tuplebag/tuplebag/bench/Workload", "named", "(Ljava/lang/String;)Ljava/util/Optional;"⟩ : MethodName) prog_9_method_4_code 6 (some (.object "java/util/Optional")) :: ws) ({ frames := 2, cells := 1, slots := 3, locals := 28 } : Room)) (fun a_ U_ => a_ = #[(.ref o)] ∧ Z.Warmed39 U_.vm ∧ U_.heap = h0) (fun _ _ _ _ _ => True) (fun _ U_ o_ U2_ => ∃ v_ L_, o_ = .returned v_ ∧ Q_nd_none Z o t1 kb cs a_OUT a__VALUES a_INP a_TAKE_COMPLETE a_OUT_text a_INP_text a_TAKE_COMPLETE_text a_OUT_text_value a_INP_text_value a_TAKE_COMPLETE_text_value a_EM k__VALUES k_OUT_text_value k_INP_text_value k_TAKE_COMPLETE_text_value cs0 h0 v_ U2_.heap L_ ∧ FrameEnd U_ o_ U2_ L_ ({ frames := 2, cells := 1, slots := 3, locals := 28 } : Room).cells ({ frames := 2, cells := 1, slots := 3, locals := 28 } : Room).slots) := by
  refine MetFree.of_bodySF (plainFor_of_name own_pn0) hisR ?_
  intro p e s m args below meth c s₁ Bd hml0 hP hK
  obtain ⟨rfl, hZ, hh⟩ := hP
  have hx := Bd.exec
  have hby := Bd.bytes
  have hml : c.maxLocals = 6 := hml0
  have hown : s.vm.findClass "com/example/tuplebag/tuplebag/bench/Workload" = some m.cls := findClass_of_methodNamed Bd.named
  have hnm := (name_of_methodNamed Bd.named Bd.method).1
  have X0 : Stand p l e ({ frames := 2, cells := 1, slots := 3, locals := 28 } : Room) s m #[(.ref o)] below meth c s₁ [] 0 0 := Stand.of_body Bd
  have e0 : s₁.heap = h0 := by rw [← hh, Bd.state]; rfl
  have N0 := Fr.nil Z.heap.size
  show own_G p e below (fun o_ s₂ => ∃ v_ L_, o_ = .returned v_ ∧ Q_nd_none Z o t1 kb cs a_OUT a__VALUES a_INP a_TAKE_COMPLETE a_OUT_text a_INP_text a_TAKE_COMPLETE_text a_OUT_text_value a_INP_text_value a_TAKE_COMPLETE_text_value a_EM k__VALUES k_OUT_text_value k_INP_text_value k_TAKE_COMPLETE_text_value cs0 h0 v_ s₂.heap L_ ∧ FrameEnd s o_ s₂ L_ ({ frames := 2, cells := 1, slots := 3, locals := 28 } : Room).cells ({ frames := 2, cells := 1, slots := 3, locals := 28 } : Room).slots) (s₁.setTop (entryFrame m #[(.ref o)] 6))
  refine own_go (s₁.setTop (mkF m 0 #[.val (.ref o), .unset, .unset, .unset, .unset, .unset] [])) (fun t_ k_ => castTop (own_ef_nd_none m o) k_) ?_
  have w' := w
  obtain ⟨S_OUT, X_OUT, S__VALUES, X__VALUES, S_INP, X_INP, S_TAKE_COMPLETE, X_TAKE_COMPLETE, F_OUT_text, X_OUT_text, F_INP_text, X_INP_text, F_TAKE_COMPLETE_text, X_TAKE_COMPLETE_text, F_OUT_text_value, F_INP_text_value, F_TAKE_COMPLETE_text_value, F_OUT_text_coder, F_INP_text_coder, F_TAKE_COMPLETE_text_coder, V__VALUES, V_OUT_text_value, V_INP_text_value, V_TAKE_COMPLETE_text_value, S_CS, n_CS, S_EM, X_EM, F_EM⟩ := w'
  have hbd := own_up cs hp
  have hcd := own_cod cs hp
  obtain ⟨_, _, ⟨T1, Lu1, ku1, nu1⟩, -, X1, ⟨Lc1, hQ1, lu1, yu1, zu1⟩, st1⟩ := Jvm.LawKit.callS X0 hx (y := (⟨"java/util/Optional", "empty", "()Ljava/util/Optional;"⟩ : MethodName)) hown (mvT hZ (hw _ (List.mem_of_getElem? (i := 20) rfl))) (mvT hZ (hw _ (List.mem_of_getElem? (i := 21) rfl))) (mvT hZ (hw _ (List.mem_of_getElem? (i := 22) rfl))) (mvT hZ (hw _ (List.mem_of_getElem? (i := 23) rfl))) (by decide) (backOf (W := 0) (rm_em l Z a0 hw [] (a_OUT) (a__VALUES) (a_INP) (a_TAKE_COMPLETE) (a_OUT_text) (a_INP_text) (a_TAKE_COMPLETE_text) (a_OUT_text_value) (a_INP_text_value) (a_TAKE_COMPLETE_text_value) (a_EM) (k__VALUES) (k_OUT_text_value) (k_INP_text_value) (k_TAKE_COMPLETE_text_value) (cs0) h0 O w) hZ (hw _ (List.mem_of_getElem? (i := 23) rfl)) (hw _ (List.mem_of_getElem? (i := 22) rfl)) (by decide) (by decide)) (g := (mkF m 0 #[.val (.ref o), .unset, .unset, .unset, .unset, .unset] [])) rfl (by rw [hml]; rfl) (argsL := []) (rest := []) (lenOf own_pd2 rfl) rfl (by show 2 * 0 + _ ≤ _; exact Nat.le_of_eq rfl) (hb hby own_d_prog_9_method_4_0) (fun _ _ => ⟨rfl, e0, (by decide : 0 + 0 ≤ _), (by decide : 0 + 0 ≤ _)⟩)
  dsimp only [Pt.U, Pt.locs, Pt.cells, Pt.slots] at X1 lu1 yu1 zu1 st1 hQ1
  subst lu1 yu1 zu1
  obtain ⟨rfl, N1q, e1⟩ := hQ1
  have N1 := Fr.app N0 N1q
  refine own_go (T1.setTop (mkF m 3 #[.val (.ref o), .unset, .unset, .unset, .unset, .unset] [(.ref a_EM)])) (fun t_ k_ => st1 _ k_) ?_
  refine own_go (T1.setTop (mkF m 4 #[.val (.ref o), .val (.ref a_EM), .unset, .unset, .unset, .unset] [])) (fun t_ k_ => XS.astoreN X1.here hx rfl (hb hby own_d_prog_9_method_4_3) rfl rfl (l' := #[.val (.ref o), .val (.ref a_EM), .unset, .unset, .unset, .unset]) rfl k_) ?_
  obtain ⟨_, _, ⟨T2, Lu2, ku2, nu2⟩, -, X2, ⟨Lc2, hQ2, lu2, yu2, zu2⟩, st2⟩ := Jvm.LawKit.callS X1 hx (y := (⟨"com/example/tuplebag/tuplebag/bench/Workload", "values", "()[Lcom/example/tuplebag/tuplebag/bench/Workload;"⟩ : MethodName)) hown (mvT hZ (hw _ (List.mem_of_getElem? (i := 25) rfl))) (mvT hZ (hw _ (List.mem_of_getElem? (i := 26) rfl))) (mvT hZ (hw _ (List.mem_of_getElem? (i := 15) rfl))) (mvT hZ (hw _ (List.mem_of_getElem? (i := 27) rfl))) (by decide) (backOf (W := 0) (rm_va l Z a0 hw [] (a_OUT) (a__VALUES) (a_INP) (a_TAKE_COMPLETE) (a_OUT_text) (a_INP_text) (a_TAKE_COMPLETE_text) (a_OUT_text_value) (a_INP_text_value) (a_TAKE_COMPLETE_text_value) (a_EM) (k__VALUES) (k_OUT_text_value) (k_INP_text_value) (k_TAKE_COMPLETE_text_value) (cs0) h0 O w) hZ (hw _ (List.mem_of_getElem? (i := 27) rfl)) (hw _ (List.mem_of_getElem? (i := 15) rfl)) (by decide) (by decide)) (g := (mkF m 4 #[.val (.ref o), .val (.ref a_EM), .unset, .unset, .unset, .unset] [])) rfl (by rw [hml]; rfl) (argsL := []) (rest := []) (lenOf own_pd3 rfl) rfl (by show 2 * 0 + _ ≤ _; exact Nat.le_of_eq rfl) (hb hby own_d_prog_9_method_4_4) (fun _ _ => ⟨rfl, e1, (by decide : 0 + 1 ≤ _), (by decide : 0 + 3 ≤ _)⟩)
  dsimp only [Pt.U, Pt.locs, Pt.cells, Pt.slots] at X2 lu2 yu2 zu2 st2 hQ2
  subst lu2 yu2 zu2
  obtain ⟨r2, rfl, N2q, K2q, V2q⟩ := hQ2
  have N2 := Fr.app N1 N2q
  have O2 := own_extK O K2q all0
  have KK2 : Keep h0 T2.heap [] := (Keep.refl h0 []).trans K2q all0
  refine own_go (T2.setTop (mkF m 7 #[.val (.ref o), .val (.ref a_EM), .unset, .unset, .unset, .unset] [(.ref r2)])) (fun t_ k_ => st2 _ k_) ?_
  refine own_go (T2.setTop (mkF m 8 #[.val (.ref o), .val (.ref a_EM), .val (.ref r2), .unset, .unset, .unset] [])) (fun t_ k_ => XS.astoreN X2.here hx rfl (hb hby own_d_prog_9_method_4_7) rfl rfl (l' := #[.val (.ref o), .val (.ref a_EM), .val (.ref r2), .unset, .unset, .unset]) rfl k_) ?_
  refine own_go (T2.setTop (mkF m 9 #[.val (.ref o), .val (.ref a_EM), .val (.ref r2), .unset, .unset, .unset] [(.ref r2)])) (fun t_ k_ => XS.aloadN X2.here hx rfl (hb hby own_d_prog_9_method_4_8) rfl rfl k_) ?_
  obtain ⟨cl3, Ar3, q3, Sz3, Nz3, Hz3, Gz3⟩ := id (V2q)
  refine own_go (T2.setTop (mkF m 10 #[.val (.ref o), .val (.ref a_EM), .val (.ref r2), .unset, .unset, .unset] [(.int (3 : Int32))])) (fun t_ k_ => X2.arraylength hx Ar3.1 (State.isArrayOf_alike hZ.alike Ar3.2.1) (g := (mkF m 9 #[.val (.ref o), .val (.ref a_EM), .val (.ref r2), .unset, .unset, .unset] [(.ref r2)])) rfl rfl (hb hby own_d_prog_9_method_4_9) _ (by rw [len_of Sz3 Nz3]; exact k_)) ?_
  refine own_go (T2.setTop (mkF m 11 #[.val (.ref o), .val (.ref a_EM), .val (.ref r2), .val (.int (3 : Int32)), .unset, .unset] [])) (fun t_ k_ => XS.istoreN X2.here hx rfl (hb hby own_d_prog_9_method_4_10) rfl (l' := #[.val (.ref o), .val (.ref a_EM), .val (.ref r2), .val (.int (3 : Int32)), .unset, .unset]) rfl k_) ?_
  refine own_go (T2.setTop (mkF m 12 #[.val (.ref o), .val (.ref a_EM), .val (.ref r2), .val (.int (3 : Int32)), .unset, .unset] [(.int (0 : Int32))])) (fun t_ k_ => XS.iconst X2.here hx rfl (hb hby own_d_prog_9_method_4_11) k_) ?_
  refine own_go (T2.setTop (mkF m 14 #[.val (.ref o), .val (.ref a_EM), .val (.ref r2), .val (.int (3 : Int32)), .val (.int (0 : Int32)), .unset] [])) (fun t_ k_ => XS.istore X2.here hx rfl (hb hby own_d_prog_9_method_4_12) rfl (l' := #[.val (.ref o), .val (.ref a_EM), .val (.ref r2), .val (.int (3 : Int32)), .val (.int (0 : Int32)), .unset]) rfl k_) ?_
  refine own_go (T2.setTop (mkF m 16 #[.val (.ref o), .val (.ref a_EM), .val (.ref r2), .val (.int (3 : Int32)), .val (.int (0 : Int32)), .unset] [(.int (0 : Int32))])) (fun t_ k_ => XS.iload X2.here hx rfl (hb hby own_d_prog_9_method_4_14) rfl k_) ?_
  refine own_go (T2.setTop (mkF m 17 #[.val (.ref o), .val (.ref a_EM), .val (.ref r2), .val (.int (3 : Int32)), .val (.int (0 : Int32)), .unset] [(.int (3 : Int32)), (.int (0 : Int32))])) (fun t_ k_ => XS.iloadN X2.here hx rfl (hb hby own_d_prog_9_method_4_16) rfl k_) ?_
  refine own_go (T2.setTop (mkF m 20 #[.val (.ref o), .val (.ref a_EM), .val (.ref r2), .val (.int (3 : Int32)), .val (.int (0 : Int32)), .unset] [])) (fun t_ k_ => XS.icmpNo X2.here hx rfl (hb hby own_d_prog_9_method_4_17) rfl (tlt (by decide : (0 : Int32) < (3 : Int32))).2.1 k_) ?_
  refine own_go (T2.setTop (mkF m 21 #[.val (.ref o), .val (.ref a_EM), .val (.ref r2), .val (.int (3 : Int32)), .val (.int (0 : Int32)), .unset] [(.ref r2)])) (fun t_ k_ => XS.aloadN X2.here hx rfl (hb hby own_d_prog_9_method_4_20) rfl rfl k_) ?_
  refine own_go (T2.setTop (mkF m 23 #[.val (.ref o), .val (.ref a_EM), .val (.ref r2), .val (.int (3 : Int32)), .val (.int (0 : Int32)), .unset] [(.int (0 : Int32)), (.ref r2)])) (fun t_ k_ => XS.iload X2.here hx rfl (hb hby own_d_prog_9_method_4_21) rfl k_) ?_
  obtain ⟨cl4, Ar4, q4, Sz4, Nz4, Hz4, Gz4⟩ := id (V2q)
  have hin4 : ¬ ((0 : Int32) < 0 ∨ cl4.slots.size ≤ ((0 : Int32)).toNatClampNeg) := inb_of Sz4 ⟨by decide, by decide⟩
  have hat4 : cl4.slots[((0 : Int32)).toNatClampNeg]? = some (.ref a_OUT) := Hz4.at hin4 rfl
  refine own_go (T2.setTop (mkF m 24 #[.val (.ref o), .val (.ref a_EM), .val (.ref r2), .val (.int (3 : Int32)), .val (.int (0 : Int32)), .unset] [(.ref a_OUT)])) (fun t_ k_ => X2.aaload hx (j := (0 : Int32)) (v := (.ref a_OUT)) Ar4.1 (State.isArrayOf_alike hZ.alike Ar4.2.1) rfl Ar4.2.2 hin4 hat4 (g := (mkF m 23 #[.val (.ref o), .val (.ref a_EM), .val (.ref r2), .val (.int (3 : Int32)), .val (.int (0 : Int32)), .unset] [(.int (0 : Int32)), (.ref r2)])) rfl rfl (hb hby own_d_prog_9_method_4_23) _ k_) ?_
  refine own_go (T2.setTop (mkF m 26 #[.val (.ref o), .val (.ref a_EM), .val (.ref r2), .val (.int (3 : Int32)), .val (.int (0 : Int32)), .val (.ref a_OUT)] [])) (fun t_ k_ => XS.astore X2.here hx rfl (hb hby own_d_prog_9_method_4_24) rfl rfl (l' := #[.val (.ref o), .val (.ref a_EM), .val (.ref r2), .val (.int (3 : Int32)), .val (.int (0 : Int32)), .val (.ref a_OUT)]) rfl k_) ?_
  refine own_go (T2.setTop (mkF m 28 #[.val (.ref o), .val (.ref a_EM), .val (.ref r2), .val (.int (3 : Int32)), .val (.int (0 : Int32)), .val (.ref a_OUT)] [(.ref a_OUT)])) (fun t_ k_ => XS.aload X2.here hx rfl (hb hby own_d_prog_9_method_4_26) rfl rfl k_) ?_
  obtain ⟨T5, X5, e5, st5⟩ := getF X2 hx hZ hown (host := "") (Or.inl (hw _ (List.mem_of_getElem? (i := 42) rfl))) Via.refl rfl (F_OUT_text.ext O2) (g := (mkF m 28 #[.val (.ref o), .val (.ref a_EM), .val (.ref r2), .val (.int (3 : Int32)), .val (.int (0 : Int32)), .val (.ref a_OUT)] [(.ref a_OUT)])) rfl rfl (hb hby own_d_prog_9_method_4_28)
  refine own_go (T5.setTop (mkF m 31 #[.val (.ref o), .val (.ref a_EM), .val (.ref r2), .val (.int (3 : Int32)), .val (.int (0 : Int32)), .val (.ref a_OUT)] [(.ref a_OUT_text)])) (fun t_ k_ => st5 _ k_) ?_
  refine own_go (T5.setTop (mkF m 32 #[.val (.ref o), .val (.ref a_EM), .val (.ref r2), .val (.int (3 : Int32)), .val (.int (0 : Int32)), .val (.ref a_OUT)] [(.ref o), (.ref a_OUT_text)])) (fun t_ k_ => XS.aloadN X5.here hx rfl (hb hby own_d_prog_9_method_4_31) rfl rfl k_) ?_
  have Fz7 := (Xo.keep K2q)
  have Fz8 := (Fv.keep K2q nin0)
  have Fz9 := (Fc.keep K2q nin0)
  have Fz10 := (Fa.keep K2q nin0)
  obtain ⟨cq6, kq6, q6a, q6b, q6c⟩ := isOf hZ e5 (X_OUT_text.ext O2)
  obtain ⟨_, _, ⟨T6, Lu6, ku6, nu6⟩, -, X6, ⟨Lc6, hQ6, lu6, yu6, zu6⟩, st6⟩ := X5.virtualBack hx (y := (⟨"java/lang/String", "equals", "(Ljava/lang/Object;)Z"⟩ : MethodName)) (z := (⟨"java/lang/String", "equals", "(Ljava/lang/Object;)Z"⟩ : MethodName)) hown (mvT hZ (hw _ (List.mem_of_getElem? (i := 44) rfl))) (mvT hZ (hw _ (List.mem_of_getElem? (i := 10) rfl))) (notFace_of_selects (args := #[]) (mvT hZ (hw _ (List.mem_of_getElem? (i := 12) rfl)))) (mvT hZ (hw _ (List.mem_of_getElem? (i := 12) rfl))) (mvT hZ (hw _ (List.mem_of_getElem? (i := 11) rfl))) (by decide) (StrChars.Road.eqW (W := 0) hZ (fun d hd => hw d (own_wordsEq d hd)) (kI := 4) (hw _ (List.mem_of_getElem? (i := 3) rfl)) (X_OUT_text.ext O2) (F_OUT_text_value.ext O2) (F_OUT_text_coder.ext O2) (V_OUT_text_value.ext O2) (cs := ([111, 117, 116] : List Int32)) (own_cod ([111, 117, 116] : List Int32) own_hp_OUT) (own_up _ own_hp_OUT) (by decide) Fz7 Fz8 Fz9 Fz10 hcd hbd hl (S_CS.ext O2) n_CS (by decide) (by decide)) q6a q6c (g := (mkF m 32 #[.val (.ref o), .val (.ref a_EM), .val (.ref r2), .val (.int (3 : Int32)), .val (.int (0 : Int32)), .val (.ref a_OUT)] [(.ref o), (.ref a_OUT_text)])) rfl (by rw [hml]; rfl) (Steps.refl _) (argsL := [(.ref o)]) (rest := []) (lenOf own_pd4 rfl) rfl (by show 2 * 0 + _ ≤ _; exact Nat.le_of_eq rfl) (hb hby own_d_prog_9_method_4_32) (fun _ _ => ⟨rfl, e5, (by decide : 1 + 0 ≤ _), (by decide : 3 + 0 ≤ _)⟩)
  dsimp only [Pt.U, Pt.locs, Pt.cells, Pt.slots] at X6 lu6 yu6 zu6 st6 hQ6
  subst lu6 yu6 zu6
  obtain ⟨hcase6, rfl, e6⟩ := hQ6
  have N6q : Fr Z.heap.size ([] : List Loc) := Fr.nil _
  have N6 := Fr.app N2 N6q
  have hv6 := hcase6.elim (fun q => absurd q.2 (fun q' => hq_OUT q'.symm)) (fun q => q.1)
  subst hv6
  refine own_go (T6.setTop (mkF m 35 #[.val (.ref o), .val (.ref a_EM), .val (.ref r2), .val (.int (3 : Int32)), .val (.int (0 : Int32)), .val (.ref a_OUT)] [(.int (0 : Int32))])) (fun t_ k_ => st6.trans k_) ?_
  refine own_go (T6.setTop (mkF m 44 #[.val (.ref o), .val (.ref a_EM), .val (.ref r2), .val (.int (3 : Int32)), .val (.int (0 : Int32)), .val (.ref a_OUT)] [])) (fun t_ k_ => XS.ifYes X6.here hx rfl (pc0 := 35) (pc' := 44) rfl (hb hby own_d_prog_9_method_4_35) rfl ((if0 _ _).trans (teq (by decide : (0 : Int32) = (0 : Int32))).1) (by decide) (by decide) k_) ?_
  refine own_go (T6.setTop (mkF m 47 #[.val (.ref o), .val (.ref a_EM), .val (.ref r2), .val (.int (3 : Int32)), .val (.int ((0 : Int32) + (1 : Int32))), .val (.ref a_OUT)] [])) (fun t_ k_ => XS.iinc X6.here hx rfl (hb hby own_d_prog_9_method_4_44) rfl (l' := #[.val (.ref o), .val (.ref a_EM), .val (.ref r2), .val (.int (3 : Int32)), .val (.int ((0 : Int32) + (1 : Int32))), .val (.ref a_OUT)]) rfl k_) ?_
  rw [show ((0 : Int32) + (1 : Int32)) = (1 : Int32) from by decide]
  refine own_go (T6.setTop (mkF m 14 #[.val (.ref o), .val (.ref a_EM), .val (.ref r2), .val (.int (3 : Int32)), .val (.int (1 : Int32)), .val (.ref a_OUT)] [])) (fun t_ k_ => XS.goto X6.here hx rfl (pc0 := 47) (pc' := 14) rfl (hb hby own_d_prog_9_method_4_47) (by decide) (by decide) k_) ?_
  refine own_go (T6.setTop (mkF m 16 #[.val (.ref o), .val (.ref a_EM), .val (.ref r2), .val (.int (3 : Int32)), .val (.int (1 : Int32)), .val (.ref a_OUT)] [(.int (1 : Int32))])) (fun t_ k_ => XS.iload X6.here hx rfl (hb hby own_d_prog_9_method_4_14) rfl k_) ?_
  refine own_go (T6.setTop (mkF m 17 #[.val (.ref o), .val (.ref a_EM), .val (.ref r2), .val (.int (3 : Int32)), .val (.int (1 : Int32)), .val (.ref a_OUT)] [(.int (3 : Int32)), (.int (1 : Int32))])) (fun t_ k_ => XS.iloadN X6.here hx rfl (hb hby own_d_prog_9_method_4_16) rfl k_) ?_
  refine own_go (T6.setTop (mkF m 20 #[.val (.ref o), .val (.ref a_EM), .val (.ref r2), .val (.int (3 : Int32)), .val (.int (1 : Int32)), .val (.ref a_OUT)] [])) (fun t_ k_ => XS.icmpNo X6.here hx rfl (hb hby own_d_prog_9_method_4_17) rfl (tlt (by decide : (1 : Int32) < (3 : Int32))).2.1 k_) ?_
  refine own_go (T6.setTop (mkF m 21 #[.val (.ref o), .val (.ref a_EM), .val (.ref r2), .val (.int (3 : Int32)), .val (.int (1 : Int32)), .val (.ref a_OUT)] [(.ref r2)])) (fun t_ k_ => XS.aloadN X6.here hx rfl (hb hby own_d_prog_9_method_4_20) rfl rfl k_) ?_
  refine own_go (T6.setTop (mkF m 23 #[.val (.ref o), .val (.ref a_EM), .val (.ref r2), .val (.int (3 : Int32)), .val (.int (1 : Int32)), .val (.ref a_OUT)] [(.int (1 : Int32)), (.ref r2)])) (fun t_ k_ => XS.iload X6.here hx rfl (hb hby own_d_prog_9_method_4_21) rfl k_) ?_
  obtain ⟨cl11, Ar11, q11, Sz11, Nz11, Hz11, Gz11⟩ := id (V2q)
  have hin11 : ¬ ((1 : Int32) < 0 ∨ cl11.slots.size ≤ ((1 : Int32)).toNatClampNeg) := inb_of Sz11 ⟨by decide, by decide⟩
  have hat11 : cl11.slots[((1 : Int32)).toNatClampNeg]? = some (.ref a_INP) := Hz11.at hin11 rfl
  refine own_go (T6.setTop (mkF m 24 #[.val (.ref o), .val (.ref a_EM), .val (.ref r2), .val (.int (3 : Int32)), .val (.int (1 : Int32)), .val (.ref a_OUT)] [(.ref a_INP)])) (fun t_ k_ => X6.aaload hx (j := (1 : Int32)) (v := (.ref a_INP)) (by rw [e6]; exact Ar11.1) (State.isArrayOf_alike hZ.alike Ar11.2.1) rfl Ar11.2.2 hin11 hat11 (g := (mkF m 23 #[.val (.ref o), .val (.ref a_EM), .val (.ref r2), .val (.int (3 : Int32)), .val (.int (1 : Int32)), .val (.ref a_OUT)] [(.int (1 : Int32)), (.ref r2)])) rfl rfl (hb hby own_d_prog_9_method_4_23) _ k_) ?_
  refine own_go (T6.setTop (mkF m 26 #[.val (.ref o), .val (.ref a_EM), .val (.ref r2), .val (.int (3 : Int32)), .val (.int (1 : Int32)), .val (.ref a_INP)] [])) (fun t_ k_ => XS.astore X6.here hx rfl (hb hby own_d_prog_9_method_4_24) rfl rfl (l' := #[.val (.ref o), .val (.ref a_EM), .val (.ref r2), .val (.int (3 : Int32)), .val (.int (1 : Int32)), .val (.ref a_INP)]) rfl k_) ?_
  refine own_go (T6.setTop (mkF m 28 #[.val (.ref o), .val (.ref a_EM), .val (.ref r2), .val (.int (3 : Int32)), .val (.int (1 : Int32)), .val (.ref a_INP)] [(.ref a_INP)])) (fun t_ k_ => XS.aload X6.here hx rfl (hb hby own_d_prog_9_method_4_26) rfl rfl k_) ?_
  obtain ⟨T12, X12, e12, st12⟩ := getF X6 hx hZ hown (host := "") (Or.inl (hw _ (List.mem_of_getElem? (i := 42) rfl))) Via.refl e6 (F_INP_text.ext O2) (g := (mkF m 28 #[.val (.ref o), .val (.ref a_EM), .val (.ref r2), .val (.int (3 : Int32)), .val (.int (1 : Int32)), .val (.ref a_INP)] [(.ref a_INP)])) rfl rfl (hb hby own_d_prog_9_method_4_28)
  refine own_go (T12.setTop (mkF m 31 #[.val (.ref o), .val (.ref a_EM), .val (.ref r2), .val (.int (3 : Int32)), .val (.int (1 : Int32)), .val (.ref a_INP)] [(.ref a_INP_text)])) (fun t_ k_ => st12 _ k_) ?_
  refine own_go (T12.setTop (mkF m 32 #[.val (.ref o), .val (.ref a_EM), .val (.ref r2), .val (.int (3 : Int32)), .val (.int (1 : Int32)), .val (.ref a_INP)] [(.ref o), (.ref a_INP_text)])) (fun t_ k_ => XS.aloadN X12.here hx rfl (hb hby own_d_prog_9_method_4_31) rfl rfl k_) ?_
  obtain ⟨cq13, kq13, q13a, q13b, q13c⟩ := isOf hZ e12 (X_INP_text.ext O2)
  obtain ⟨_, _, ⟨T13, Lu13, ku13, nu13⟩, -, X13, ⟨Lc13, hQ13, lu13, yu13, zu13⟩, st13⟩ := X12.virtualBack hx (y := (⟨"java/lang/String", "equals", "(Ljava/lang/Object;)Z"⟩ : MethodName)) (z := (⟨"java/lang/String", "equals", "(Ljava/lang/Object;)Z"⟩ : MethodName)) hown (mvT hZ (hw _ (List.mem_of_getElem? (i := 44) rfl))) (mvT hZ (hw _ (List.mem_of_getElem? (i := 10) rfl))) (notFace_of_selects (args := #[]) (mvT hZ (hw _ (List.mem_of_getElem? (i := 12) rfl)))) (mvT hZ (hw _ (List.mem_of_getElem? (i := 12) rfl))) (mvT hZ (hw _ (List.mem_of_getElem? (i := 11) rfl))) (by decide) (StrChars.Road.eqW (W := 0) hZ (fun d hd => hw d (own_wordsEq d hd)) (kI := 4) (hw _ (List.mem_of_getElem? (i := 3) rfl)) (X_INP_text.ext O2) (F_INP_text_value.ext O2) (F_INP_text_coder.ext O2) (V_INP_text_value.ext O2) (cs := ([105, 110, 112] : List Int32)) (own_cod ([105, 110, 112] : List Int32) own_hp_INP) (own_up _ own_hp_INP) (by decide) Fz7 Fz8 Fz9 Fz10 hcd hbd hl (S_CS.ext O2) n_CS (by decide) (by decide)) q13a q13c (g := (mkF m 32 #[.val (.ref o), .val (.ref a_EM), .val (.ref r2), .val (.int (3 : Int32)), .val (.int (1 : Int32)), .val (.ref a_INP)] [(.ref o), (.ref a_INP_text)])) rfl (by rw [hml]; rfl) (Steps.refl _) (argsL := [(.ref o)]) (rest := []) (lenOf own_pd4 rfl) rfl (by show 2 * 0 + _ ≤ _; exact Nat.le_of_eq rfl) (hb hby own_d_prog_9_method_4_32) (fun _ _ => ⟨rfl, e12, (by decide : 1 + 0 ≤ _), (by decide : 3 + 0 ≤ _)⟩)
  dsimp only [Pt.U, Pt.locs, Pt.cells, Pt.slots] at X13 lu13 yu13 zu13 st13 hQ13
  subst lu13 yu13 zu13
  obtain ⟨hcase13, rfl, e13⟩ := hQ13
  have N13q : Fr Z.heap.size ([] : List Loc) := Fr.nil _
  have N13 := Fr.app N6 N13q
  have hv13 := hcase13.elim (fun q => absurd q.2 (fun q' => hq_INP q'.symm)) (fun q => q.1)
  subst hv13
  refine own_go (T13.setTop (mkF m 35 #[.val (.ref o), .val (.ref a_EM), .val (.ref r2), .val (.int (3 : Int32)), .val (.int (1 : Int32)), .val (.ref a_INP)] [(.int (0 : Int32))])) (fun t_ k_ => st13.trans k_) ?_
  refine own_go (T13.setTop (mkF m 44 #[.val (.ref o), .val (.ref a_EM), .val (.ref r2), .val (.int (3 : Int32)), .val (.int (1 : Int32)), .val (.ref a_INP)] [])) (fun t_ k_ => XS.ifYes X13.here hx rfl (pc0 := 35) (pc' := 44) rfl (hb hby own_d_prog_9_method_4_35) rfl ((if0 _ _).trans (teq (by decide : (0 : Int32) = (0 : Int32))).1) (by decide) (by decide) k_) ?_
  refine own_go (T13.setTop (mkF m 47 #[.val (.ref o), .val (.ref a_EM), .val (.ref r2), .val (.int (3 : Int32)), .val (.int ((1 : Int32) + (1 : Int32))), .val (.ref a_INP)] [])) (fun t_ k_ => XS.iinc X13.here hx rfl (hb hby own_d_prog_9_method_4_44) rfl (l' := #[.val (.ref o), .val (.ref a_EM), .val (.ref r2), .val (.int (3 : Int32)), .val (.int ((1 : Int32) + (1 : Int32))), .val (.ref a_INP)]) rfl k_) ?_
  rw [show ((1 : Int32) + (1 : Int32)) = (2 : Int32) from by decide]
  refine own_go (T13.setTop (mkF m 14 #[.val (.ref o), .val (.ref a_EM), .val (.ref r2), .val (.int (3 : Int32)), .val (.int (2 : Int32)), .val (.ref a_INP)] [])) (fun t_ k_ => XS.goto X13.here hx rfl (pc0 := 47) (pc' := 14) rfl (hb hby own_d_prog_9_method_4_47) (by decide) (by decide) k_) ?_
  refine own_go (T13.setTop (mkF m 16 #[.val (.ref o), .val (.ref a_EM), .val (.ref r2), .val (.int (3 : Int32)), .val (.int (2 : Int32)), .val (.ref a_INP)] [(.int (2 : Int32))])) (fun t_ k_ => XS.iload X13.here hx rfl (hb hby own_d_prog_9_method_4_14) rfl k_) ?_
  refine own_go (T13.setTop (mkF m 17 #[.val (.ref o), .val (.ref a_EM), .val (.ref r2), .val (.int (3 : Int32)), .val (.int (2 : Int32)), .val (.ref a_INP)] [(.int (3 : Int32)), (.int (2 : Int32))])) (fun t_ k_ => XS.iloadN X13.here hx rfl (hb hby own_d_prog_9_method_4_16) rfl k_) ?_
  refine own_go (T13.setTop (mkF m 20 #[.val (.ref o), .val (.ref a_EM), .val (.ref r2), .val (.int (3 : Int32)), .val (.int (2 : Int32)), .val (.ref a_INP)] [])) (fun t_ k_ => XS.icmpNo X13.here hx rfl (hb hby own_d_prog_9_method_4_17) rfl (tlt (by decide : (2 : Int32) < (3 : Int32))).2.1 k_) ?_
  refine own_go (T13.setTop (mkF m 21 #[.val (.ref o), .val (.ref a_EM), .val (.ref r2), .val (.int (3 : Int32)), .val (.int (2 : Int32)), .val (.ref a_INP)] [(.ref r2)])) (fun t_ k_ => XS.aloadN X13.here hx rfl (hb hby own_d_prog_9_method_4_20) rfl rfl k_) ?_
  refine own_go (T13.setTop (mkF m 23 #[.val (.ref o), .val (.ref a_EM), .val (.ref r2), .val (.int (3 : Int32)), .val (.int (2 : Int32)), .val (.ref a_INP)] [(.int (2 : Int32)), (.ref r2)])) (fun t_ k_ => XS.iload X13.here hx rfl (hb hby own_d_prog_9_method_4_21) rfl k_) ?_
  obtain ⟨cl14, Ar14, q14, Sz14, Nz14, Hz14, Gz14⟩ := id (V2q)
  have hin14 : ¬ ((2 : Int32) < 0 ∨ cl14.slots.size ≤ ((2 : Int32)).toNatClampNeg) := inb_of Sz14 ⟨by decide, by decide⟩
  have hat14 : cl14.slots[((2 : Int32)).toNatClampNeg]? = some (.ref a_TAKE_COMPLETE) := Hz14.at hin14 rfl
  refine own_go (T13.setTop (mkF m 24 #[.val (.ref o), .val (.ref a_EM), .val (.ref r2), .val (.int (3 : Int32)), .val (.int (2 : Int32)), .val (.ref a_INP)] [(.ref a_TAKE_COMPLETE)])) (fun t_ k_ => X13.aaload hx (j := (2 : Int32)) (v := (.ref a_TAKE_COMPLETE)) (by rw [e13]; exact Ar14.1) (State.isArrayOf_alike hZ.alike Ar14.2.1) rfl Ar14.2.2 hin14 hat14 (g := (mkF m 23 #[.val (.ref o), .val (.ref a_EM), .val (.ref r2), .val (.int (3 : Int32)), .val (.int (2 : Int32)), .val (.ref a_INP)] [(.int (2 : Int32)), (.ref r2)])) rfl rfl (hb hby own_d_prog_9_method_4_23) _ k_) ?_
  refine own_go (T13.setTop (mkF m 26 #[.val (.ref o), .val (.ref a_EM), .val (.ref r2), .val (.int (3 : Int32)), .val (.int (2 : Int32)), .val (.ref a_TAKE_COMPLETE)] [])) (fun t_ k_ => XS.astore X13.here hx rfl (hb hby own_d_prog_9_method_4_24) rfl rfl (l' := #[.val (.ref o), .val (.ref a_EM), .val (.ref r2), .val (.int (3 : Int32)), .val (.int (2 : Int32)), .val (.ref a_TAKE_COMPLETE)]) rfl k_) ?_
  refine own_go (T13.setTop (mkF m 28 #[.val (.ref o), .val (.ref a_EM), .val (.ref r2), .val (.int (3 : Int32)), .val (.int (2 : Int32)), .val (.ref a_TAKE_COMPLETE)] [(.ref a_TAKE_COMPLETE)])) (fun t_ k_ => XS.aload X13.here hx rfl (hb hby own_d_prog_9_method_4_26) rfl rfl k_) ?_
  obtain ⟨T15, X15, e15, st15⟩ := getF X13 hx hZ hown (host := "") (Or.inl (hw _ (List.mem_of_getElem? (i := 42) rfl))) Via.refl e13 (F_TAKE_COMPLETE_text.ext O2) (g := (mkF m 28 #[.val (.ref o), .val (.ref a_EM), .val (.ref r2), .val (.int (3 : Int32)), .val (.int (2 : Int32)), .val (.ref a_TAKE_COMPLETE)] [(.ref a_TAKE_COMPLETE)])) rfl rfl (hb hby own_d_prog_9_method_4_28)
  refine own_go (T15.setTop (mkF m 31 #[.val (.ref o), .val (.ref a_EM), .val (.ref r2), .val (.int (3 : Int32)), .val (.int (2 : Int32)), .val (.ref a_TAKE_COMPLETE)] [(.ref a_TAKE_COMPLETE_text)])) (fun t_ k_ => st15 _ k_) ?_
  refine own_go (T15.setTop (mkF m 32 #[.val (.ref o), .val (.ref a_EM), .val (.ref r2), .val (.int (3 : Int32)), .val (.int (2 : Int32)), .val (.ref a_TAKE_COMPLETE)] [(.ref o), (.ref a_TAKE_COMPLETE_text)])) (fun t_ k_ => XS.aloadN X15.here hx rfl (hb hby own_d_prog_9_method_4_31) rfl rfl k_) ?_
  obtain ⟨cq16, kq16, q16a, q16b, q16c⟩ := isOf hZ e15 (X_TAKE_COMPLETE_text.ext O2)
  obtain ⟨_, _, ⟨T16, Lu16, ku16, nu16⟩, -, X16, ⟨Lc16, hQ16, lu16, yu16, zu16⟩, st16⟩ := X15.virtualBack hx (y := (⟨"java/lang/String", "equals", "(Ljava/lang/Object;)Z"⟩ : MethodName)) (z := (⟨"java/lang/String", "equals", "(Ljava/lang/Object;)Z"⟩ : MethodName)) hown (mvT hZ (hw _ (List.mem_of_getElem? (i := 44) rfl))) (mvT hZ (hw _ (List.mem_of_getElem? (i := 10) rfl))) (notFace_of_selects (args := #[]) (mvT hZ (hw _ (List.mem_of_getElem? (i := 12) rfl)))) (mvT hZ (hw _ (List.mem_of_getElem? (i := 12) rfl))) (mvT hZ (hw _ (List.mem_of_getElem? (i := 11) rfl))) (by decide) (StrChars.Road.eqW (W := 0) hZ (fun d hd => hw d (own_wordsEq d hd)) (kI := 4) (hw _ (List.mem_of_getElem? (i := 3) rfl)) (X_TAKE_COMPLETE_text.ext O2) (F_TAKE_COMPLETE_text_value.ext O2) (F_TAKE_COMPLETE_text_coder.ext O2) (V_TAKE_COMPLETE_text_value.ext O2) (cs := ([116, 97, 107, 101, 45, 99, 111, 109, 112, 108, 101, 116, 101] : List Int32)) (own_cod ([116, 97, 107, 101, 45, 99, 111, 109, 112, 108, 101, 116, 101] : List Int32) own_hp_TAKE_COMPLETE) (own_up _ own_hp_TAKE_COMPLETE) (by decide) Fz7 Fz8 Fz9 Fz10 hcd hbd hl (S_CS.ext O2) n_CS (by decide) (by decide)) q16a q16c (g := (mkF m 32 #[.val (.ref o), .val (.ref a_EM), .val (.ref r2), .val (.int (3 : Int32)), .val (.int (2 : Int32)), .val (.ref a_TAKE_COMPLETE)] [(.ref o), (.ref a_TAKE_COMPLETE_text)])) rfl (by rw [hml]; rfl) (Steps.refl _) (argsL := [(.ref o)]) (rest := []) (lenOf own_pd4 rfl) rfl (by show 2 * 0 + _ ≤ _; exact Nat.le_of_eq rfl) (hb hby own_d_prog_9_method_4_32) (fun _ _ => ⟨rfl, e15, (by decide : 1 + 0 ≤ _), (by decide : 3 + 0 ≤ _)⟩)
  dsimp only [Pt.U, Pt.locs, Pt.cells, Pt.slots] at X16 lu16 yu16 zu16 st16 hQ16
  subst lu16 yu16 zu16
  obtain ⟨hcase16, rfl, e16⟩ := hQ16
  have N16q : Fr Z.heap.size ([] : List Loc) := Fr.nil _
  have N16 := Fr.app N13 N16q
  have hv16 := hcase16.elim (fun q => absurd q.2 (fun q' => hq_TAKE_COMPLETE q'.symm)) (fun q => q.1)
  subst hv16
  refine own_go (T16.setTop (mkF m 35 #[.val (.ref o), .val (.ref a_EM), .val (.ref r2), .val (.int (3 : Int32)), .val (.int (2 : Int32)), .val (.ref a_TAKE_COMPLETE)] [(.int (0 : Int32))])) (fun t_ k_ => st16.trans k_) ?_
  refine own_go (T16.setTop (mkF m 44 #[.val (.ref o), .val (.ref a_EM), .val (.ref r2), .val (.int (3 : Int32)), .val (.int (2 : Int32)), .val (.ref a_TAKE_COMPLETE)] [])) (fun t_ k_ => XS.ifYes X16.here hx rfl (pc0 := 35) (pc' := 44) rfl (hb hby own_d_prog_9_method_4_35) rfl ((if0 _ _).trans (teq (by decide : (0 : Int32) = (0 : Int32))).1) (by decide) (by decide) k_) ?_
  refine own_go (T16.setTop (mkF m 47 #[.val (.ref o), .val (.ref a_EM), .val (.ref r2), .val (.int (3 : Int32)), .val (.int ((2 : Int32) + (1 : Int32))), .val (.ref a_TAKE_COMPLETE)] [])) (fun t_ k_ => XS.iinc X16.here hx rfl (hb hby own_d_prog_9_method_4_44) rfl (l' := #[.val (.ref o), .val (.ref a_EM), .val (.ref r2), .val (.int (3 : Int32)), .val (.int ((2 : Int32) + (1 : Int32))), .val (.ref a_TAKE_COMPLETE)]) rfl k_) ?_
  rw [show ((2 : Int32) + (1 : Int32)) = (3 : Int32) from by decide]
  refine own_go (T16.setTop (mkF m 14 #[.val (.ref o), .val (.ref a_EM), .val (.ref r2), .val (.int (3 : Int32)), .val (.int (3 : Int32)), .val (.ref a_TAKE_COMPLETE)] [])) (fun t_ k_ => XS.goto X16.here hx rfl (pc0 := 47) (pc' := 14) rfl (hb hby own_d_prog_9_method_4_47) (by decide) (by decide) k_) ?_
  refine own_go (T16.setTop (mkF m 16 #[.val (.ref o), .val (.ref a_EM), .val (.ref r2), .val (.int (3 : Int32)), .val (.int (3 : Int32)), .val (.ref a_TAKE_COMPLETE)] [(.int (3 : Int32))])) (fun t_ k_ => XS.iload X16.here hx rfl (hb hby own_d_prog_9_method_4_14) rfl k_) ?_
  refine own_go (T16.setTop (mkF m 17 #[.val (.ref o), .val (.ref a_EM), .val (.ref r2), .val (.int (3 : Int32)), .val (.int (3 : Int32)), .val (.ref a_TAKE_COMPLETE)] [(.int (3 : Int32)), (.int (3 : Int32))])) (fun t_ k_ => XS.iloadN X16.here hx rfl (hb hby own_d_prog_9_method_4_16) rfl k_) ?_
  refine own_go (T16.setTop (mkF m 50 #[.val (.ref o), .val (.ref a_EM), .val (.ref r2), .val (.int (3 : Int32)), .val (.int (3 : Int32)), .val (.ref a_TAKE_COMPLETE)] [])) (fun t_ k_ => XS.icmpYes X16.here hx rfl (pc0 := 17) (pc' := 50) rfl (hb hby own_d_prog_9_method_4_17) rfl (flt (by decide : ¬ ((3 : Int32) < (3 : Int32)))).2.1 (by decide) (by decide) k_) ?_
  refine own_go (T16.setTop (mkF m 51 #[.val (.ref o), .val (.ref a_EM), .val (.ref r2), .val (.int (3 : Int32)), .val (.int (3 : Int32)), .val (.ref a_TAKE_COMPLETE)] [(.ref a_EM)])) (fun t_ k_ => XS.aloadN X16.here hx rfl (hb hby own_d_prog_9_method_4_50) rfl rfl k_) ?_
  obtain ⟨fs, hr, hrun, hended, hW, hsame⟩ := X16.leave (v := some (.ref a_EM)) (fun h => by rw [Bd.returns] at h; cases h)
  refine ⟨_, _, Jvm.RoadKit.retOut X16 hx Bd.returns rfl (Or.inr (Or.inr (Or.inr (Or.inr ⟨rfl, rfl, rfl⟩)))) (hb hby own_d_prog_9_method_4_51) hr, hrun, hended, _, _, rfl, ?_, ⟨_, rfl⟩, hW, hsame.mono (by decide) (by decide)⟩
  show Q_nd_none Z o t1 kb cs a_OUT a__VALUES a_INP a_TAKE_COMPLETE a_OUT_text a_INP_text a_TAKE_COMPLETE_text a_OUT_text_value a_INP_text_value a_TAKE_COMPLETE_text_value a_EM k__VALUES k_OUT_text_value k_INP_text_value k_TAKE_COMPLETE_text_value cs0 h0 _ T16.heap _
  rw [show T16.heap = T2.heap from e16]
  exact ⟨_, rfl, N16, KK2, (X_EM.ext O2), (F_EM.ext O2)⟩
theorem own_safe0 {Z : State} {EL : List (String × Nat)} {vm : Vm} {h : Heap} {a : Addr} (hal : Z.vm.Alike vm) (E : Exa Z h a "java/lang/String") (F : Fld Z h a "java/lang/String" "value" "[B" .null) : Safe Z EL vm h a := fun B => by
  obtain ⟨p, hp, u, x, hb, q, hq, G, hy⟩ := B
  obtain ⟨cS, ⟨⟨s1, s2, s3, ⟨cv, kv, iv, s4, s4'⟩, ⟨cc, kc, ic, s5, s5'⟩, s6, s7, s8, s9, s10, s11, s12, s13, s14, s15, s16⟩, hfS, hcS⟩, ⟨kS, k1, k2, k3⟩, hB, hbyt⟩ := G
  rcases hy with rfl | rfl
  · obtain ⟨kv', z4⟩ := ff_back (U := Wst Z vm h) hal s4
    exact Fld.ne F (⟨q.sC, cv, kv', iv, q.fSV, s1, z4, s6, s2, s3, by rw [← hal.assignable]; exact s4', s8⟩ : Fld Z h q.sa "java/lang/String" "value" "[B" (.ref q.sd)) (by simp) rfl
  · obtain ⟨cell, k, e1, e2, -⟩ := E
    cases e1.symm.trans s10
    exact ids_ne e2 (by rw [← hal.findClass]; exact hB) (by decide) rfl
theorem own_pn3 : plainName "java/lang/String" = true := by first | (simp [plainName, overriddenIn]; done) | decide +kernel
theorem own_ef_i4 (m : MethodId) (a : Addr) (b : Addr) : entryFrame m #[(.ref a), (.ref b), (.int (0 : Int32)), (.int (0 : Int32)), .null] 6 = mkF m 0 #[.val (.ref a), .val (.ref b), .val (.int (0 : Int32)), .val (.int (0 : Int32)), .val .null, .unset] [] := by first | (simp [entryFrame, mkF, argsToLocals, Value.category]; done) | rfl
theorem own_d_jdk_42_method_149_0 : decode jdk_42_method_149_code 0 = .ok (.aload_n 0, 1) := by decide +kernel
theorem own_d_jdk_42_method_149_1 : decode jdk_42_method_149_code 1 = .ok (.invokespecial 1, 3) := by decide +kernel
theorem own_d_jdk_42_method_149_4 : decode jdk_42_method_149_code 4 = .ok (.iload_n 3, 1) := by decide +kernel
theorem own_d_jdk_42_method_149_5 : decode jdk_42_method_149_code 5 = .ok (.ifCond .ne 22, 3) := by decide +kernel
theorem own_d_jdk_42_method_149_8 : decode jdk_42_method_149_code 8 = .ok (.aload_n 0, 1) := by decide +kernel
theorem own_d_jdk_42_method_149_9 : decode jdk_42_method_149_code 9 = .ok (.ldc 7, 2) := by decide +kernel
theorem own_lit_String_7 : ∀ c ∈ ([] : List Int32), ¬ c < 0 ∧ ¬ (255 : Int32) < c := by decide +kernel
theorem own_d_jdk_42_method_149_11 : decode jdk_42_method_149_code 11 = .ok (.getfield 9, 3) := by decide +kernel
theorem own_d_jdk_42_method_149_14 : decode jdk_42_method_149_code 14 = .ok (.putfield 9, 3) := by decide +kernel
theorem own_d_jdk_42_method_149_17 : decode jdk_42_method_149_code 17 = .ok (.aload_n 0, 1) := by decide +kernel
theorem own_d_jdk_42_method_149_18 : decode jdk_42_method_149_code 18 = .ok (.ldc 7, 2) := by decide +kernel
theorem own_d_jdk_42_method_149_20 : decode jdk_42_method_149_code 20 = .ok (.getfield 15, 3) := by decide +kernel
theorem own_d_jdk_42_method_149_23 : decode jdk_42_method_149_code 23 = .ok (.putfield 15, 3) := by decide +kernel
theorem own_d_jdk_42_method_149_26 : decode jdk_42_method_149_code 26 = .ok (.return_, 1) := by decide +kernel
def Q_i4 (Z : State) (a : Addr) (b : Addr) (a_OUT : Addr) (a__VALUES : Addr) (a_INP : Addr) (a_TAKE_COMPLETE : Addr) (a_OUT_text : Addr) (a_INP_text : Addr) (a_TAKE_COMPLETE_text : Addr) (a_OUT_text_value : Addr) (a_INP_text_value : Addr) (a_TAKE_COMPLETE_text_value : Addr) (a_EM : Addr) (k__VALUES : ClassId) (k_OUT_text_value : ClassId) (k_INP_text_value : ClassId) (k_TAKE_COMPLETE_text_value : ClassId) (cs0 : Int32) (h0 : Heap) (v_ : Option Value) (h : Heap) (L_ : List Loc) : Prop := ∃ (t1 : Addr), ∃ (kb : ClassId), v_ = none ∧ Fr Z.heap.size L_ ∧ (Keep h0 h [a] ∧ Exa Z h a "java/lang/String" ∧ Fld Z h a "java/lang/String" "value" "[B" (.ref t1) ∧ Fld Z h a "java/lang/String" "coder" "B" (.int 0) ∧ Arv Z h t1 kb .byte 0 [] (.int 0))
set_option maxRecDepth 65536 in
set_option maxHeartbeats 40000000 in
theorem rm_i4 (l : Launch) (Z : State) (a0 : Array Value) (hw : ∀ d ∈ tables_1, d.before a0 Z = true) (ws : List Jvm.Cond) (a : Addr) (b : Addr) (a_OUT : Addr) (a__VALUES : Addr) (a_INP : Addr) (a_TAKE_COMPLETE : Addr) (a_OUT_text : Addr) (a_INP_text : Addr) (a_TAKE_COMPLETE_text : Addr) (a_OUT_text_value : Addr) (a_INP_text_value : Addr) (a_TAKE_COMPLETE_text_value : Addr) (a_EM : Addr) (k__VALUES : ClassId) (k_OUT_text_value : ClassId) (k_INP_text_value : ClassId) (k_TAKE_COMPLETE_text_value : ClassId) (cs0 : Int32) (h0 : Heap) (O : Ext Z.heap h0) (w : own_W Z a_OUT a__VALUES a_INP a_TAKE_COMPLETE a_OUT_text a_INP_text a_TAKE_COMPLETE_text a_OUT_text_value a_INP_text_value a_TAKE_COMPLETE_text_value a_EM k__VALUES k_OUT_text_value k_INP_text_value k_TAKE_COMPLETE_text_value cs0) (X : Exa Z h0 a "java/lang/String") (F : Fld Z h0 a "java/lang/String" "value" "[B" .null) (G : Fld Z h0 a "java/lang/String" "coder" "B" (.int 0)) (ga : Z.heap.size ≤ a) :
    MetFree l (⟨"java/lang/String", "<init>", "([CIILjava/lang/Void;)V"⟩ : MethodName) (head1 (Jvm.Cond.code (⟨"java/lang/String", "<init>", "([CIILjava/lang/Void;)V"⟩ : MethodName) jdk_42_method_149_code 6 none :: ws) ({ frames := 1, cells := 4, slots := 8, locals := 12 } : Room)) (fun a_ U_ => a_ = #[(.ref a), (.ref b), (.int (0 : Int32)), (.int (0 : Int32)), .null] ∧ Z.Warmed39 U_.vm ∧ U_.heap = h0 ∧ CHv Z consts_1 U_.vm h0) (fun _ _ _ _ _ => True) (fun _ U_ o_ U2_ => ∃ v_ L_, o_ = .returned v_ ∧ Q_i4 Z a b a_OUT a__VALUES a_INP a_TAKE_COMPLETE a_OUT_text a_INP_text a_TAKE_COMPLETE_text a_OUT_text_value a_INP_text_value a_TAKE_COMPLETE_text_value a_EM k__VALUES k_OUT_text_value k_INP_text_value k_TAKE_COMPLETE_text_value cs0 h0 v_ U2_.heap L_ ∧ CHr Z consts_1 U_.vm U_.heap U2_.vm U2_.heap ∧ ReturnedEndW U_ o_ U2_ L_ ({ frames := 1, cells := 4, slots := 8, locals := 12 } : Room).cells ({ frames := 1, cells := 4, slots := 8, locals := 12 } : Room).slots) := by
  refine MetFree.of_bodySF (plainFor_of_name own_pn3) hisR ?_
  intro p e s m args below meth c s₁ Bd hml0 hP hK
  obtain ⟨rfl, hZ, hh, hCH⟩ := hP
  have hx := Bd.exec
  have hby := Bd.bytes
  have hml : c.maxLocals = 6 := hml0
  have hown : s.vm.findClass "java/lang/String" = some m.cls := findClass_of_methodNamed Bd.named
  have hnm := (name_of_methodNamed Bd.named Bd.method).1
  have X0 : Stand p l e ({ frames := 1, cells := 4, slots := 8, locals := 12 } : Room) (s.setVm s.vm) m #[(.ref a), (.ref b), (.int (0 : Int32)), (.int (0 : Int32)), .null] below meth c s₁ [] 0 0 := Stand.of_body Bd
  have e0 : s₁.heap = h0 := by rw [← hh, Bd.state]; rfl
  have N0 := Fr.nil Z.heap.size
  have hS : s.Since s.vm s.heap.size := (State.WarmedH.refl _).since _
  have hk : s.heap.size ≤ h0.size := Nat.le_of_eq (congrArg Array.size hh)
  have hZ : Z.Warmed39 (s.setVm s.vm).vm := hZ
  have hown : (s.setVm s.vm).vm.findClass "java/lang/String" = some m.cls := hown
  show own_G p e below (fun o_ s₂ => ∃ v_ L_, o_ = .returned v_ ∧ Q_i4 Z a b a_OUT a__VALUES a_INP a_TAKE_COMPLETE a_OUT_text a_INP_text a_TAKE_COMPLETE_text a_OUT_text_value a_INP_text_value a_TAKE_COMPLETE_text_value a_EM k__VALUES k_OUT_text_value k_INP_text_value k_TAKE_COMPLETE_text_value cs0 h0 v_ s₂.heap L_ ∧ CHr Z consts_1 s.vm s.heap s₂.vm s₂.heap ∧ ReturnedEndW s o_ s₂ L_ ({ frames := 1, cells := 4, slots := 8, locals := 12 } : Room).cells ({ frames := 1, cells := 4, slots := 8, locals := 12 } : Room).slots) (s₁.setTop (entryFrame m #[(.ref a), (.ref b), (.int (0 : Int32)), (.int (0 : Int32)), .null] 6))
  refine own_go (s₁.setTop (mkF m 0 #[.val (.ref a), .val (.ref b), .val (.int (0 : Int32)), .val (.int (0 : Int32)), .val .null, .unset] [])) (fun t_ k_ => castTop (own_ef_i4 m a b) k_) ?_
  have R0 := CHr.refl hCH
  have hEW : EW Z a0 consts_1 := own_EW hw
  have w' := w
  obtain ⟨S_OUT, X_OUT, S__VALUES, X__VALUES, S_INP, X_INP, S_TAKE_COMPLETE, X_TAKE_COMPLETE, F_OUT_text, X_OUT_text, F_INP_text, X_INP_text, F_TAKE_COMPLETE_text, X_TAKE_COMPLETE_text, F_OUT_text_value, F_INP_text_value, F_TAKE_COMPLETE_text_value, F_OUT_text_coder, F_INP_text_coder, F_TAKE_COMPLETE_text_coder, V__VALUES, V_OUT_text_value, V_INP_text_value, V_TAKE_COMPLETE_text_value, S_CS, n_CS, S_EM, X_EM, F_EM⟩ := w'
  have Sa : Safe Z consts_1 s.vm h0 a := own_safe0 hZ.alike X F
  refine own_go (s₁.setTop (mkF m 1 #[.val (.ref a), .val (.ref b), .val (.int (0 : Int32)), .val (.int (0 : Int32)), .val .null, .unset] [(.ref a)])) (fun t_ k_ => XS.aloadN X0.here hx rfl (hb hby own_d_jdk_42_method_149_0) rfl rfl k_) ?_
  obtain ⟨T1, X1, e1, st1⟩ := initO X0 hx hZ hown (hw _ (List.mem_of_getElem? (i := 90) rfl)) (hw _ (List.mem_of_getElem? (i := 68) rfl)) (hw _ (List.mem_of_getElem? (i := 69) rfl)) e0 (g := (mkF m 1 #[.val (.ref a), .val (.ref b), .val (.int (0 : Int32)), .val (.int (0 : Int32)), .val .null, .unset] [(.ref a)])) rfl (by rw [hml]; rfl) rfl (hb hby own_d_jdk_42_method_149_1) (by decide) (W := 0) (by show 2 * 0 + _ ≤ _; exact Nat.le_of_eq rfl) (by decide)
  refine own_go (T1.setTop (mkF m 4 #[.val (.ref a), .val (.ref b), .val (.int (0 : Int32)), .val (.int (0 : Int32)), .val .null, .unset] [])) (fun t_ k_ => st1 _ k_) ?_
  refine own_go (T1.setTop (mkF m 5 #[.val (.ref a), .val (.ref b), .val (.int (0 : Int32)), .val (.int (0 : Int32)), .val .null, .unset] [(.int (0 : Int32))])) (fun t_ k_ => XS.iloadN X1.here hx rfl (hb hby own_d_jdk_42_method_149_4) rfl k_) ?_
  refine own_go (T1.setTop (mkF m 8 #[.val (.ref a), .val (.ref b), .val (.int (0 : Int32)), .val (.int (0 : Int32)), .val .null, .unset] [])) (fun t_ k_ => XS.ifNo X1.here hx rfl (hb hby own_d_jdk_42_method_149_5) rfl ((if0 _ _).trans (teq (by decide : (0 : Int32) = (0 : Int32))).2) k_) ?_
  refine own_go (T1.setTop (mkF m 9 #[.val (.ref a), .val (.ref b), .val (.int (0 : Int32)), .val (.int (0 : Int32)), .val .null, .unset] [(.ref a)])) (fun t_ k_ => XS.aloadN X1.here hx rfl (hb hby own_d_jdk_42_method_149_8) rfl rfl k_) ?_
  obtain ⟨a2, T2, h2, k2, t2, kb2, X2, e2, E2, hS, hk, hZ, hown, A2, C2, V2, B2, lt2, ltb2, CC2, Li2, ne2, st2⟩ := ldcCH (EL := consts_1) X1 hx hZ hown (hw _ (List.mem_of_getElem? (i := 108) rfl)) (fun d hd => hw d (own_sA d hd)) e1 hS hk hEW (List.mem_of_getElem? (i := 3) rfl) R0.1 (vs := (([] : List Int32).map (fun c => c.toInt8.toInt32)).map Value.int) (z := 0) (by exact ⟨by decide, by rfl⟩) (by decide) (by rfl) (g := (mkF m 9 #[.val (.ref a), .val (.ref b), .val (.int (0 : Int32)), .val (.int (0 : Int32)), .val .null, .unset] [(.ref a)])) rfl (hb hby own_d_jdk_42_method_149_9) (n := 0) (by decide) (by decide) (by decide) (by decide)
  have K2 : Keep h0 h2 [a] := (Keep.refl h0 [a]).ext E2
  have O2 := own_ext O E2
  have R2 := R0.trans CC2
  refine own_go (T2.setTop (mkF m 11 #[.val (.ref a), .val (.ref b), .val (.int (0 : Int32)), .val (.int (0 : Int32)), .val .null, .unset] [(.ref a2), (.ref a)])) (fun t_ k_ => st2 _ k_) ?_
  obtain ⟨T3, X3, e3, st3⟩ := getF X2 hx hZ hown (host := "") (Or.inl (hw _ (List.mem_of_getElem? (i := 49) rfl))) Via.refl e2 V2 (g := (mkF m 11 #[.val (.ref a), .val (.ref b), .val (.int (0 : Int32)), .val (.int (0 : Int32)), .val .null, .unset] [(.ref a2), (.ref a)])) rfl rfl (hb hby own_d_jdk_42_method_149_11)
  refine own_go (T3.setTop (mkF m 14 #[.val (.ref a), .val (.ref b), .val (.int (0 : Int32)), .val (.int (0 : Int32)), .val .null, .unset] [(.ref t2), (.ref a)])) (fun t_ k_ => st3 _ k_) ?_
  have Fz4 := (X.ext E2)
  have Fz5 := (F.ext E2)
  obtain ⟨T6, h6, X6, e6, W6, st6⟩ := putF X3 hx hZ hown (host := "") (Or.inl (hw _ (List.mem_of_getElem? (i := 49) rfl))) Via.refl e3 Fz5 Fz4 (Or.inr ⟨(hw _ (List.mem_of_getElem? (i := 5) rfl)), rfl, hnm⟩) (hw _ (List.mem_of_getElem? (i := 3) rfl)) (ty := (.array .byte)) (by decide) rfl rfl (g := (mkF m 14 #[.val (.ref a), .val (.ref b), .val (.int (0 : Int32)), .val (.int (0 : Int32)), .val .null, .unset] [(.ref t2), (.ref a)])) rfl rfl (hb hby own_d_jdk_42_method_149_14)
  have Fw6 := Fz5.same W6
  have Fz7 := (CC2.safe X.lt Sa)
  have R6 := R2.trans (CHr.wr W6 Fz7 R2.1)
  have K6 : Keep h0 h6 [a] := K2.wr W6 (Or.inl (List.mem_of_getElem? (i := 0) rfl))
  have N6 := Fr.snoc X6 N0 ga
  have O6 := own_extW O2 W6 ga
  refine own_go (T6.setTop (mkF m 17 #[.val (.ref a), .val (.ref b), .val (.int (0 : Int32)), .val (.int (0 : Int32)), .val .null, .unset] [])) (fun t_ k_ => st6 _ k_) ?_
  refine own_go (T6.setTop (mkF m 18 #[.val (.ref a), .val (.ref b), .val (.int (0 : Int32)), .val (.int (0 : Int32)), .val .null, .unset] [(.ref a)])) (fun t_ k_ => XS.aloadN X6.here hx rfl (hb hby own_d_jdk_42_method_149_17) rfl rfl k_) ?_
  obtain ⟨a8, T8, h8, k8, t8, kb8, X8, e8, E8, hS, hk, hZ, hown, A8, C8, V8, B8, lt8, ltb8, CC8, Li8, ne8, st8⟩ := ldcCH (EL := consts_1) X6 hx hZ hown (hw _ (List.mem_of_getElem? (i := 108) rfl)) (fun d hd => hw d (own_sA d hd)) e6 hS (Nat.le_trans hk (Keep.of_wr W6).1) hEW (List.mem_of_getElem? (i := 3) rfl) R6.1 (vs := (([] : List Int32).map (fun c => c.toInt8.toInt32)).map Value.int) (z := 0) (by exact ⟨by decide, by rfl⟩) (by decide) (by rfl) (g := (mkF m 18 #[.val (.ref a), .val (.ref b), .val (.int (0 : Int32)), .val (.int (0 : Int32)), .val .null, .unset] [(.ref a)])) rfl (hb hby own_d_jdk_42_method_149_18) (n := 0) (by decide) (by decide) (by decide) (by decide)
  have K8 : Keep h0 h8 [a] := K6.ext E8
  have O8 := own_ext O6 E8
  have R8 := R6.trans CC8
  refine own_go (T8.setTop (mkF m 20 #[.val (.ref a), .val (.ref b), .val (.int (0 : Int32)), .val (.int (0 : Int32)), .val .null, .unset] [(.ref a8), (.ref a)])) (fun t_ k_ => st8 _ k_) ?_
  obtain ⟨T9, X9, e9, st9⟩ := getF X8 hx hZ hown (host := "") (Or.inl (hw _ (List.mem_of_getElem? (i := 48) rfl))) Via.refl e8 C8 (g := (mkF m 20 #[.val (.ref a), .val (.ref b), .val (.int (0 : Int32)), .val (.int (0 : Int32)), .val .null, .unset] [(.ref a8), (.ref a)])) rfl rfl (hb hby own_d_jdk_42_method_149_20)
  refine own_go (T9.setTop (mkF m 23 #[.val (.ref a), .val (.ref b), .val (.int (0 : Int32)), .val (.int (0 : Int32)), .val .null, .unset] [(.int (0 : Int32)), (.ref a)])) (fun t_ k_ => st9 _ k_) ?_
  have Fz10 := ((Fz4.wr W6).ext E8)
  have Fz11 := (((G.ext E2).other W6 (Or.inr (slot_ne (a0 := a0) (Or.inr (hw _ (List.mem_of_getElem? (i := 6) rfl))) (Or.inr (hw _ (List.mem_of_getElem? (i := 5) rfl))) (by decide) (t := .byte) (t' := (.array .byte)) (by decide) (by decide)))).ext E8)
  obtain ⟨T12, h12, X12, e12, W12, st12⟩ := putFN X9 hx hZ hown (hw _ (List.mem_of_getElem? (i := 48) rfl)) Via.refl e9 Fz11 Fz10 (Or.inr ⟨(hw _ (List.mem_of_getElem? (i := 6) rfl)), rfl, hnm⟩) (hw _ (List.mem_of_getElem? (i := 3) rfl)) (ty := .byte) (v' := (.int (0 : Int32))) (by decide) rfl (by decide) (g := (mkF m 23 #[.val (.ref a), .val (.ref b), .val (.int (0 : Int32)), .val (.int (0 : Int32)), .val .null, .unset] [(.int (0 : Int32)), (.ref a)])) rfl rfl (hb hby own_d_jdk_42_method_149_23)
  have Fw12 := Fz11.same W12
  have Fz13 := (CC8.safe (Fz4.wr W6).lt (Safe.wr W6 Fz7 R2.1 Fz7))
  have R12 := R8.trans (CHr.wr W12 Fz13 R8.1)
  have K12 : Keep h0 h12 [a] := K8.wr W12 (Or.inl (List.mem_of_getElem? (i := 0) rfl))
  have N12 := Fr.snoc X12 N6 ga
  have O12 := own_extW O8 W12 ga
  refine own_go (T12.setTop (mkF m 26 #[.val (.ref a), .val (.ref b), .val (.int (0 : Int32)), .val (.int (0 : Int32)), .val .null, .unset] [])) (fun t_ k_ => st12 _ k_) ?_
  obtain ⟨fs, hr, hrun, hended, hRW⟩ := X12.leaveW hS (by rw [show T12.heap = h12 from e12]; exact (Nat.le_trans hk (Keep.of_wr W12).1)) (v := none) (fun _ => rfl)
  refine ⟨_, _, X12.returnOut hx Bd.returns (hb hby own_d_jdk_42_method_149_26) hr, hrun, hended, _, _, rfl, ?_, (by rw [hh]; show CHr Z consts_1 s.vm h0 T12.vm T12.heap; rw [show T12.heap = h12 from e12]; exact R12.trans (CHv.at X12 hZ hEW R12.1)), hRW.1, hRW.2.1, hRW.2.2.1, hRW.2.2.2.mono (by decide) (by decide)⟩
  show Q_i4 Z a b a_OUT a__VALUES a_INP a_TAKE_COMPLETE a_OUT_text a_INP_text a_TAKE_COMPLETE_text a_OUT_text_value a_INP_text_value a_TAKE_COMPLETE_text_value a_EM k__VALUES k_OUT_text_value k_INP_text_value k_TAKE_COMPLETE_text_value cs0 h0 _ T12.heap _
  have Fz14 := (Fz10.wr W12)
  have Fz15 := ((Fw6.ext E8).other W12 (Or.inr (slot_ne (a0 := a0) (Or.inr (hw _ (List.mem_of_getElem? (i := 5) rfl))) (Or.inr (hw _ (List.mem_of_getElem? (i := 6) rfl))) (by decide) (t := (.array .byte)) (t' := .byte) (by decide) (by decide))))
  have Fz16 := (((B2.other W6 (Ne.symm (ne2 a Fz7).2)).ext E8).other W12 (Ne.symm (ne2 a Fz7).2))
  rw [show T12.heap = h12 from e12]
  exact ⟨_, _, rfl, N12, K12, Fz14, Fz15, Fw12, Fz16⟩
theorem own_ef_i1 (m : MethodId) (a : Addr) (b : Addr) : entryFrame m #[(.ref a), (.ref b)] 2 = mkF m 0 #[.val (.ref a), .val (.ref b)] [] := by first | (simp [entryFrame, mkF, argsToLocals, Value.category]; done) | rfl
theorem own_d_jdk_42_method_3_0 : decode jdk_42_method_3_code 0 = .ok (.aload_n 0, 1) := by decide +kernel
theorem own_d_jdk_42_method_3_1 : decode jdk_42_method_3_code 1 = .ok (.aload_n 1, 1) := by decide +kernel
theorem own_d_jdk_42_method_3_2 : decode jdk_42_method_3_code 2 = .ok (.iconst 0, 1) := by decide +kernel
theorem own_d_jdk_42_method_3_3 : decode jdk_42_method_3_code 3 = .ok (.aload_n 1, 1) := by decide +kernel
theorem own_d_jdk_42_method_3_4 : decode jdk_42_method_3_code 4 = .ok (.arraylength, 1) := by decide +kernel
theorem own_d_jdk_42_method_3_5 : decode jdk_42_method_3_code 5 = .ok (.aconst_null, 1) := by decide +kernel
theorem own_d_jdk_42_method_3_6 : decode jdk_42_method_3_code 6 = .ok (.invokespecial 27, 3) := by decide +kernel
theorem own_pd6 : parseMethodDescriptor "([CIILjava/lang/Void;)V" = some ⟨[(.array .char), .int, .int, (.object "java/lang/Void")], none⟩ := by decide +kernel
theorem own_d_jdk_42_method_3_9 : decode jdk_42_method_3_code 9 = .ok (.return_, 1) := by decide +kernel
def Q_i1 (Z : State) (a : Addr) (b : Addr) (kC : ClassId) (a_OUT : Addr) (a__VALUES : Addr) (a_INP : Addr) (a_TAKE_COMPLETE : Addr) (a_OUT_text : Addr) (a_INP_text : Addr) (a_TAKE_COMPLETE_text : Addr) (a_OUT_text_value : Addr) (a_INP_text_value : Addr) (a_TAKE_COMPLETE_text_value : Addr) (a_EM : Addr) (k__VALUES : ClassId) (k_OUT_text_value : ClassId) (k_INP_text_value : ClassId) (k_TAKE_COMPLETE_text_value : ClassId) (cs0 : Int32) (h0 : Heap) (v_ : Option Value) (h : Heap) (L_ : List Loc) : Prop := ∃ (t1 : Addr), ∃ (kb : ClassId), v_ = none ∧ Fr Z.heap.size L_ ∧ (Keep h0 h [a] ∧ Exa Z h a "java/lang/String" ∧ Fld Z h a "java/lang/String" "value" "[B" (.ref t1) ∧ Fld Z h a "java/lang/String" "coder" "B" (.int 0) ∧ Arv Z h t1 kb .byte 0 [] (.int 0))
set_option maxRecDepth 65536 in
set_option maxHeartbeats 40000000 in
theorem rm_i1 (l : Launch) (Z : State) (a0 : Array Value) (hw : ∀ d ∈ tables_1, d.before a0 Z = true) (ws : List Jvm.Cond) (a : Addr) (b : Addr) (kC : ClassId) (a_OUT : Addr) (a__VALUES : Addr) (a_INP : Addr) (a_TAKE_COMPLETE : Addr) (a_OUT_text : Addr) (a_INP_text : Addr) (a_TAKE_COMPLETE_text : Addr) (a_OUT_text_value : Addr) (a_INP_text_value : Addr) (a_TAKE_COMPLETE_text_value : Addr) (a_EM : Addr) (k__VALUES : ClassId) (k_OUT_text_value : ClassId) (k_INP_text_value : ClassId) (k_TAKE_COMPLETE_text_value : ClassId) (cs0 : Int32) (h0 : Heap) (O : Ext Z.heap h0) (w : own_W Z a_OUT a__VALUES a_INP a_TAKE_COMPLETE a_OUT_text a_INP_text a_TAKE_COMPLETE_text a_OUT_text_value a_INP_text_value a_TAKE_COMPLETE_text_value a_EM k__VALUES k_OUT_text_value k_INP_text_value k_TAKE_COMPLETE_text_value cs0) (X : Exa Z h0 a "java/lang/String") (F : Fld Z h0 a "java/lang/String" "value" "[B" .null) (G : Fld Z h0 a "java/lang/String" "coder" "B" (.int 0)) (ga : Z.heap.size ≤ a) (B : Arv Z h0 b kC .char 0 [] (.int 0)) :
    MetFree l (⟨"java/lang/String", "<init>", "([C)V"⟩ : MethodName) (head1 (Jvm.Cond.code (⟨"java/lang/String", "<init>", "([C)V"⟩ : MethodName) jdk_42_method_3_code 2 none :: ws) ({ frames := 2, cells := 4, slots := 8, locals := 29 } : Room)) (fun a_ U_ => a_ = #[(.ref a), (.ref b)] ∧ Z.Warmed39 U_.vm ∧ U_.heap = h0 ∧ CHv Z consts_1 U_.vm h0) (fun _ _ _ _ _ => True) (fun _ U_ o_ U2_ => ∃ v_ L_, o_ = .returned v_ ∧ Q_i1 Z a b kC a_OUT a__VALUES a_INP a_TAKE_COMPLETE a_OUT_text a_INP_text a_TAKE_COMPLETE_text a_OUT_text_value a_INP_text_value a_TAKE_COMPLETE_text_value a_EM k__VALUES k_OUT_text_value k_INP_text_value k_TAKE_COMPLETE_text_value cs0 h0 v_ U2_.heap L_ ∧ CHr Z consts_1 U_.vm U_.heap U2_.vm U2_.heap ∧ ReturnedEndW U_ o_ U2_ L_ ({ frames := 2, cells := 4, slots := 8, locals := 29 } : Room).cells ({ frames := 2, cells := 4, slots := 8, locals := 29 } : Room).slots) := by
  refine MetFree.of_bodySF (plainFor_of_name own_pn3) hisR ?_
  intro p e s m args below meth c s₁ Bd hml0 hP hK
  obtain ⟨rfl, hZ, hh, hCH⟩ := hP
  have hx := Bd.exec
  have hby := Bd.bytes
  have hml : c.maxLocals = 2 := hml0
  have hown : s.vm.findClass "java/lang/String" = some m.cls := findClass_of_methodNamed Bd.named
  have hnm := (name_of_methodNamed Bd.named Bd.method).1
  have X0 : Stand p l e ({ frames := 2, cells := 4, slots := 8, locals := 29 } : Room) (s.setVm s.vm) m #[(.ref a), (.ref b)] below meth c s₁ [] 0 0 := Stand.of_body Bd
  have e0 : s₁.heap = h0 := by rw [← hh, Bd.state]; rfl
  have N0 := Fr.nil Z.heap.size
  have hS : s.Since s.vm s.heap.size := (State.WarmedH.refl _).since _
  have hk : s.heap.size ≤ h0.size := Nat.le_of_eq (congrArg Array.size hh)
  have hZ : Z.Warmed39 (s.setVm s.vm).vm := hZ
  have hown : (s.setVm s.vm).vm.findClass "java/lang/String" = some m.cls := hown
  show own_G p e below (fun o_ s₂ => ∃ v_ L_, o_ = .returned v_ ∧ Q_i1 Z a b kC a_OUT a__VALUES a_INP a_TAKE_COMPLETE a_OUT_text a_INP_text a_TAKE_COMPLETE_text a_OUT_text_value a_INP_text_value a_TAKE_COMPLETE_text_value a_EM k__VALUES k_OUT_text_value k_INP_text_value k_TAKE_COMPLETE_text_value cs0 h0 v_ s₂.heap L_ ∧ CHr Z consts_1 s.vm s.heap s₂.vm s₂.heap ∧ ReturnedEndW s o_ s₂ L_ ({ frames := 2, cells := 4, slots := 8, locals := 29 } : Room).cells ({ frames := 2, cells := 4, slots := 8, locals := 29 } : Room).slots) (s₁.setTop (entryFrame m #[(.ref a), (.ref b)] 2))
  refine own_go (s₁.setTop (mkF m 0 #[.val (.ref a), .val (.ref b)] [])) (fun t_ k_ => castTop (own_ef_i1 m a b) k_) ?_
  have R0 := CHr.refl hCH
  have hEW : EW Z a0 consts_1 := own_EW hw
  have w' := w
  obtain ⟨S_OUT, X_OUT, S__VALUES, X__VALUES, S_INP, X_INP, S_TAKE_COMPLETE, X_TAKE_COMPLETE, F_OUT_text, X_OUT_text, F_INP_text, X_INP_text, F_TAKE_COMPLETE_text, X_TAKE_COMPLETE_text, F_OUT_text_value, F_INP_text_value, F_TAKE_COMPLETE_text_value, F_OUT_text_coder, F_INP_text_coder, F_TAKE_COMPLETE_text_coder, V__VALUES, V_OUT_text_value, V_INP_text_value, V_TAKE_COMPLETE_text_value, S_CS, n_CS, S_EM, X_EM, F_EM⟩ := w'
  have Sa : Safe Z consts_1 s.vm h0 a := own_safe0 hZ.alike X F
  refine own_go (s₁.setTop (mkF m 1 #[.val (.ref a), .val (.ref b)] [(.ref a)])) (fun t_ k_ => XS.aloadN X0.here hx rfl (hb hby own_d_jdk_42_method_3_0) rfl rfl k_) ?_
  refine own_go (s₁.setTop (mkF m 2 #[.val (.ref a), .val (.ref b)] [(.ref b), (.ref a)])) (fun t_ k_ => XS.aloadN X0.here hx rfl (hb hby own_d_jdk_42_method_3_1) rfl rfl k_) ?_
  refine own_go (s₁.setTop (mkF m 3 #[.val (.ref a), .val (.ref b)] [(.int (0 : Int32)), (.ref b), (.ref a)])) (fun t_ k_ => XS.iconst X0.here hx rfl (hb hby own_d_jdk_42_method_3_2) k_) ?_
  refine own_go (s₁.setTop (mkF m 4 #[.val (.ref a), .val (.ref b)] [(.ref b), (.int (0 : Int32)), (.ref b), (.ref a)])) (fun t_ k_ => XS.aloadN X0.here hx rfl (hb hby own_d_jdk_42_method_3_3) rfl rfl k_) ?_
  obtain ⟨cl1, Ar1, q1, Sz1, Nz1, Hz1, Gz1⟩ := id (B)
  refine own_go (s₁.setTop (mkF m 5 #[.val (.ref a), .val (.ref b)] [(.int (0 : Int32)), (.int (0 : Int32)), (.ref b), (.ref a)])) (fun t_ k_ => X0.arraylength hx (by rw [e0]; exact Ar1.1) (State.isArrayOf_alike hZ.alike Ar1.2.1) (g := (mkF m 4 #[.val (.ref a), .val (.ref b)] [(.ref b), (.int (0 : Int32)), (.ref b), (.ref a)])) rfl rfl (hb hby own_d_jdk_42_method_3_4) _ (by rw [len_of Sz1 Nz1]; exact k_)) ?_
  refine own_go (s₁.setTop (mkF m 6 #[.val (.ref a), .val (.ref b)] [.null, (.int (0 : Int32)), (.int (0 : Int32)), (.ref b), (.ref a)])) (fun t_ k_ => XS.aconstNull X0.here hx rfl (hb hby own_d_jdk_42_method_3_5) k_) ?_
  obtain ⟨_, _, ⟨T2, Lu2, ku2, nu2⟩, -, X2, hS2, hg2, ⟨Lc2, hQ2, lu2, yu2, zu2, C2⟩, st2⟩ := X0.specialBackS hx (y := (⟨"java/lang/String", "<init>", "([CIILjava/lang/Void;)V"⟩ : MethodName)) rfl hown (mvT hZ (hw _ (List.mem_of_getElem? (i := 87) rfl))) (mvT hZ (hw _ (List.mem_of_getElem? (i := 88) rfl))) (mvT hZ (hw _ (List.mem_of_getElem? (i := 89) rfl))) (by decide) (backOfSH (W := 0) (rm_i4 l Z a0 hw [] (a) (b) (a_OUT) (a__VALUES) (a_INP) (a_TAKE_COMPLETE) (a_OUT_text) (a_INP_text) (a_TAKE_COMPLETE_text) (a_OUT_text_value) (a_INP_text_value) (a_TAKE_COMPLETE_text_value) (a_EM) (k__VALUES) (k_OUT_text_value) (k_INP_text_value) (k_TAKE_COMPLETE_text_value) (cs0) h0 O w X F G ga) hZ (hw _ (List.mem_of_getElem? (i := 89) rfl)) (hw _ (List.mem_of_getElem? (i := 2) rfl)) (by decide) (by decide) hEW R0.1) (g := (mkF m 6 #[.val (.ref a), .val (.ref b)] [.null, (.int (0 : Int32)), (.int (0 : Int32)), (.ref b), (.ref a)])) rfl (by rw [hml]; rfl) (Steps.refl _) (a := a) (argsL := [(.ref b), (.int (0 : Int32)), (.int (0 : Int32)), .null]) (rest := []) (lenOf own_pd6 rfl) rfl (by show 2 * 0 + _ ≤ _; exact Nat.le_of_eq rfl) (hb hby own_d_jdk_42_method_3_6) (fun _ _ => ⟨rfl, e0, (by decide : 0 + 4 ≤ _), (by decide : 0 + 8 ≤ _)⟩)
  dsimp only [Pt.U, Pt.locs, Pt.cells, Pt.slots] at X2 lu2 yu2 zu2 st2 hQ2 hS2 hg2 C2
  subst lu2 yu2 zu2
  obtain ⟨X2, hS, hZ, hown⟩ := rebS hS (by rw [show s₁.heap = h0 from e0]; exact hk) X2 hS2 hg2 hZ hown
  have R2 := R0.trans C2
  obtain ⟨t2, kb2, rfl, N2q, K2q, X2q, F2q, G2q, A2q⟩ := hQ2
  have N2 := Fr.app N0 N2q
  have O2 := own_extK O K2q (allS ga all0)
  have KK2 : Keep h0 T2.heap [a] := (Keep.refl h0 [a]).trans K2q (allS (Or.inl (List.mem_of_getElem? (i := 0) rfl)) all0)
  refine own_go (T2.setTop (mkF m 9 #[.val (.ref a), .val (.ref b)] [])) (fun t_ k_ => st2.trans k_) ?_
  obtain ⟨fs, hr, hrun, hended, hRW⟩ := X2.leaveW hS (by rw [show T2.heap = T2.heap from rfl]; exact (Nat.le_refl _)) (v := none) (fun _ => rfl)
  refine ⟨_, _, X2.returnOut hx Bd.returns (hb hby own_d_jdk_42_method_3_9) hr, hrun, hended, _, _, rfl, ?_, (by rw [hh]; show CHr Z consts_1 s.vm h0 T2.vm T2.heap; rw [show T2.heap = T2.heap from rfl]; exact R2.trans (CHv.at X2 hZ hEW R2.1)), hRW.1, hRW.2.1, hRW.2.2.1, hRW.2.2.2.mono (by decide) (by decide)⟩
  show Q_i1 Z a b kC a_OUT a__VALUES a_INP a_TAKE_COMPLETE a_OUT_text a_INP_text a_TAKE_COMPLETE_text a_OUT_text_value a_INP_text_value a_TAKE_COMPLETE_text_value a_EM k__VALUES k_OUT_text_value k_INP_text_value k_TAKE_COMPLETE_text_value cs0 h0 _ T2.heap _
  rw [show T2.heap = T2.heap from rfl]
  exact ⟨_, _, rfl, N2, KK2, X2q, F2q, G2q, A2q⟩
theorem own_pn4 : plainName "com/example/tuplebag/tuplebag/bench/WorkloadNamedPinLaw" = true := by first | (simp [plainName, overriddenIn]; done) | decide +kernel
theorem own_ef_dw (m : MethodId) (x : Int32) (y : Int32) : entryFrame m #[(.int x), (.int y)] 6 = mkF m 0 #[.val (.int x), .val (.int y), .unset, .unset, .unset, .unset] [] := by first | (simp [entryFrame, mkF, argsToLocals, Value.category]; done) | rfl
theorem own_d_method_3_0 : decode method_3_code 0 = .ok (.iload_n 0, 1) := by decide +kernel
theorem own_d_method_3_1 : decode method_3_code 1 = .ok (.sipush 255, 3) := by decide +kernel
theorem own_d_method_3_4 : decode method_3_code 4 = .ok (.iand, 1) := by decide +kernel
theorem own_d_method_3_5 : decode method_3_code 5 = .ok (.i2c, 1) := by decide +kernel
theorem own_d_method_3_6 : decode method_3_code 6 = .ok (.istore_n 2, 1) := by decide +kernel
theorem own_d_method_3_7 : decode method_3_code 7 = .ok (.iload_n 0, 1) := by decide +kernel
theorem own_d_method_3_8 : decode method_3_code 8 = .ok (.bipush 8, 2) := by decide +kernel
theorem own_d_method_3_10 : decode method_3_code 10 = .ok (.iushr, 1) := by decide +kernel
theorem own_d_method_3_11 : decode method_3_code 11 = .ok (.sipush 255, 3) := by decide +kernel
theorem own_d_method_3_14 : decode method_3_code 14 = .ok (.iand, 1) := by decide +kernel
theorem own_d_method_3_15 : decode method_3_code 15 = .ok (.i2c, 1) := by decide +kernel
theorem own_d_method_3_16 : decode method_3_code 16 = .ok (.istore_n 3, 1) := by decide +kernel
theorem own_d_method_3_17 : decode method_3_code 17 = .ok (.iload_n 0, 1) := by decide +kernel
theorem own_d_method_3_18 : decode method_3_code 18 = .ok (.bipush 16, 2) := by decide +kernel
theorem own_d_method_3_20 : decode method_3_code 20 = .ok (.iushr, 1) := by decide +kernel
theorem own_d_method_3_21 : decode method_3_code 21 = .ok (.sipush 255, 3) := by decide +kernel
theorem own_d_method_3_24 : decode method_3_code 24 = .ok (.iand, 1) := by decide +kernel
theorem own_d_method_3_25 : decode method_3_code 25 = .ok (.i2c, 1) := by decide +kernel
theorem own_d_method_3_26 : decode method_3_code 26 = .ok (.istore 4, 2) := by decide +kernel
theorem own_d_method_3_28 : decode method_3_code 28 = .ok (.iload_n 1, 1) := by decide +kernel
theorem own_d_method_3_29 : decode method_3_code 29 = .ok (.ifCond .ne 18, 3) := by decide +kernel
theorem own_d_method_3_32 : decode method_3_code 32 = .ok (.new 14, 3) := by decide +kernel
theorem own_d_method_3_35 : decode method_3_code 35 = .ok (.dup, 1) := by decide +kernel
theorem own_d_method_3_36 : decode method_3_code 36 = .ok (.iconst 0, 1) := by decide +kernel
theorem own_d_method_3_37 : decode method_3_code 37 = .ok (.newarray .char, 2) := by decide +kernel
theorem own_d_method_3_39 : decode method_3_code 39 = .ok (.invokespecial 16, 3) := by decide +kernel
theorem own_pd7 : parseMethodDescriptor "([C)V" = some ⟨[(.array .char)], none⟩ := by decide +kernel
theorem own_d_method_3_42 : decode method_3_code 42 = .ok (.astore 5, 2) := by decide +kernel
theorem own_d_method_3_44 : decode method_3_code 44 = .ok (.goto 80, 3) := by decide +kernel
theorem own_d_method_3_124 : decode method_3_code 124 = .ok (.aload 5, 2) := by decide +kernel
theorem own_d_method_3_126 : decode method_3_code 126 = .ok (.areturn, 1) := by decide +kernel
theorem own_d_method_3_47 : decode method_3_code 47 = .ok (.iload_n 1, 1) := by decide +kernel
theorem own_d_method_3_48 : decode method_3_code 48 = .ok (.iconst 1, 1) := by decide +kernel
theorem own_d_method_3_49 : decode method_3_code 49 = .ok (.if_icmp .ne 22, 3) := by decide +kernel
theorem own_d_method_3_52 : decode method_3_code 52 = .ok (.new 14, 3) := by decide +kernel
theorem own_d_method_3_55 : decode method_3_code 55 = .ok (.dup, 1) := by decide +kernel
theorem own_d_method_3_56 : decode method_3_code 56 = .ok (.iconst 1, 1) := by decide +kernel
theorem own_d_method_3_57 : decode method_3_code 57 = .ok (.newarray .char, 2) := by decide +kernel
theorem own_d_method_3_59 : decode method_3_code 59 = .ok (.dup, 1) := by decide +kernel
theorem own_d_method_3_60 : decode method_3_code 60 = .ok (.iconst 0, 1) := by decide +kernel
theorem own_d_method_3_61 : decode method_3_code 61 = .ok (.iload_n 2, 1) := by decide +kernel
theorem own_d_method_3_62 : decode method_3_code 62 = .ok (.castore, 1) := by decide +kernel
theorem own_d_method_3_63 : decode method_3_code 63 = .ok (.invokespecial 16, 3) := by decide +kernel
theorem own_d_method_3_66 : decode method_3_code 66 = .ok (.astore 5, 2) := by decide +kernel
theorem own_d_method_3_68 : decode method_3_code 68 = .ok (.goto 56, 3) := by decide +kernel
theorem own_d_method_3_71 : decode method_3_code 71 = .ok (.iload_n 1, 1) := by decide +kernel
theorem own_d_method_3_72 : decode method_3_code 72 = .ok (.iconst 2, 1) := by decide +kernel
theorem own_d_method_3_73 : decode method_3_code 73 = .ok (.if_icmp .ne 26, 3) := by decide +kernel
theorem own_d_method_3_76 : decode method_3_code 76 = .ok (.new 14, 3) := by decide +kernel
theorem own_d_method_3_79 : decode method_3_code 79 = .ok (.dup, 1) := by decide +kernel
theorem own_d_method_3_80 : decode method_3_code 80 = .ok (.iconst 2, 1) := by decide +kernel
theorem own_d_method_3_81 : decode method_3_code 81 = .ok (.newarray .char, 2) := by decide +kernel
theorem own_d_method_3_83 : decode method_3_code 83 = .ok (.dup, 1) := by decide +kernel
theorem own_d_method_3_84 : decode method_3_code 84 = .ok (.iconst 0, 1) := by decide +kernel
theorem own_d_method_3_85 : decode method_3_code 85 = .ok (.iload_n 2, 1) := by decide +kernel
theorem own_d_method_3_86 : decode method_3_code 86 = .ok (.castore, 1) := by decide +kernel
theorem own_d_method_3_87 : decode method_3_code 87 = .ok (.dup, 1) := by decide +kernel
theorem own_d_method_3_88 : decode method_3_code 88 = .ok (.iconst 1, 1) := by decide +kernel
theorem own_d_method_3_89 : decode method_3_code 89 = .ok (.iload_n 3, 1) := by decide +kernel
theorem own_d_method_3_90 : decode method_3_code 90 = .ok (.castore, 1) := by decide +kernel
theorem own_d_method_3_91 : decode method_3_code 91 = .ok (.invokespecial 16, 3) := by decide +kernel
theorem own_d_method_3_94 : decode method_3_code 94 = .ok (.astore 5, 2) := by decide +kernel
theorem own_d_method_3_96 : decode method_3_code 96 = .ok (.goto 28, 3) := by decide +kernel
theorem own_d_method_3_99 : decode method_3_code 99 = .ok (.new 14, 3) := by decide +kernel
theorem own_d_method_3_102 : decode method_3_code 102 = .ok (.dup, 1) := by decide +kernel
theorem own_d_method_3_103 : decode method_3_code 103 = .ok (.iconst 3, 1) := by decide +kernel
theorem own_d_method_3_104 : decode method_3_code 104 = .ok (.newarray .char, 2) := by decide +kernel
theorem own_d_method_3_106 : decode method_3_code 106 = .ok (.dup, 1) := by decide +kernel
theorem own_d_method_3_107 : decode method_3_code 107 = .ok (.iconst 0, 1) := by decide +kernel
theorem own_d_method_3_108 : decode method_3_code 108 = .ok (.iload_n 2, 1) := by decide +kernel
theorem own_d_method_3_109 : decode method_3_code 109 = .ok (.castore, 1) := by decide +kernel
theorem own_d_method_3_110 : decode method_3_code 110 = .ok (.dup, 1) := by decide +kernel
theorem own_d_method_3_111 : decode method_3_code 111 = .ok (.iconst 1, 1) := by decide +kernel
theorem own_d_method_3_112 : decode method_3_code 112 = .ok (.iload_n 3, 1) := by decide +kernel
theorem own_d_method_3_113 : decode method_3_code 113 = .ok (.castore, 1) := by decide +kernel
theorem own_d_method_3_114 : decode method_3_code 114 = .ok (.dup, 1) := by decide +kernel
theorem own_d_method_3_115 : decode method_3_code 115 = .ok (.iconst 2, 1) := by decide +kernel
theorem own_d_method_3_116 : decode method_3_code 116 = .ok (.iload 4, 2) := by decide +kernel
theorem own_d_method_3_118 : decode method_3_code 118 = .ok (.castore, 1) := by decide +kernel
theorem own_d_method_3_119 : decode method_3_code 119 = .ok (.invokespecial 16, 3) := by decide +kernel
theorem own_d_method_3_122 : decode method_3_code 122 = .ok (.astore 5, 2) := by decide +kernel
def Q_dw (Z : State) (x : Int32) (y : Int32) (a_OUT : Addr) (a__VALUES : Addr) (a_INP : Addr) (a_TAKE_COMPLETE : Addr) (a_OUT_text : Addr) (a_INP_text : Addr) (a_TAKE_COMPLETE_text : Addr) (a_OUT_text_value : Addr) (a_INP_text_value : Addr) (a_TAKE_COMPLETE_text_value : Addr) (a_EM : Addr) (k__VALUES : ClassId) (k_OUT_text_value : ClassId) (k_INP_text_value : ClassId) (k_TAKE_COMPLETE_text_value : ClassId) (cs0 : Int32) (h0 : Heap) (v_ : Option Value) (h : Heap) (L_ : List Loc) : Prop := ∃ (o : Addr), ∃ (t1 : Addr), ∃ (kb : ClassId), ∃ (cs : List Int32), v_ = some (.ref o) ∧ Fr Z.heap.size L_ ∧ ((∀ c ∈ cs, ¬ c < 0 ∧ ¬ (255 : Int32) < c) ∧ (cs.length ≤ 4000) ∧ Keep h0 h [] ∧ Exa Z h o "java/lang/String" ∧ Fld Z h o "java/lang/String" "value" "[B" (.ref t1) ∧ Fld Z h o "java/lang/String" "coder" "B" (.int 0) ∧ Arv Z h t1 kb .byte (Int32.ofNat cs.length) ((cs.map (fun c => c.toInt8.toInt32)).map Value.int) (.int 0))
set_option maxRecDepth 65536 in
set_option maxHeartbeats 40000000 in
theorem rm_dw (l : Launch) (Z : State) (a0 : Array Value) (hw : ∀ d ∈ tables_1, d.before a0 Z = true) (ws : List Jvm.Cond) (x : Int32) (y : Int32) (a_OUT : Addr) (a__VALUES : Addr) (a_INP : Addr) (a_TAKE_COMPLETE : Addr) (a_OUT_text : Addr) (a_INP_text : Addr) (a_TAKE_COMPLETE_text : Addr) (a_OUT_text_value : Addr) (a_INP_text_value : Addr) (a_TAKE_COMPLETE_text_value : Addr) (a_EM : Addr) (k__VALUES : ClassId) (k_OUT_text_value : ClassId) (k_INP_text_value : ClassId) (k_TAKE_COMPLETE_text_value : ClassId) (cs0 : Int32) (h0 : Heap) (O : Ext Z.heap h0) (w : own_W Z a_OUT a__VALUES a_INP a_TAKE_COMPLETE a_OUT_text a_INP_text a_TAKE_COMPLETE_text a_OUT_text_value a_INP_text_value a_TAKE_COMPLETE_text_value a_EM k__VALUES k_OUT_text_value k_INP_text_value k_TAKE_COMPLETE_text_value cs0) :
    MetFree l (⟨"com/example/tuplebag/tuplebag/bench/WorkloadNamedPinLaw", "drawn", "(II)Ljava/lang/String;"⟩ : MethodName) (head1 (Jvm.Cond.code (⟨"com/example/tuplebag/tuplebag/bench/WorkloadNamedPinLaw", "drawn", "(II)Ljava/lang/String;"⟩ : MethodName) method_3_code 6 (some (.object "java/lang/String")) :: ws) ({ frames := 4, cells := 6, slots := 12, locals := 66 } : Room)) (fun a_ U_ => a_ = #[(.int x), (.int y)] ∧ Z.Warmed39 U_.vm ∧ U_.heap = h0 ∧ CHv Z consts_1 U_.vm h0) (fun _ _ _ _ _ => True) (fun _ U_ o_ U2_ => ∃ v_ L_, o_ = .returned v_ ∧ Q_dw Z x y a_OUT a__VALUES a_INP a_TAKE_COMPLETE a_OUT_text a_INP_text a_TAKE_COMPLETE_text a_OUT_text_value a_INP_text_value a_TAKE_COMPLETE_text_value a_EM k__VALUES k_OUT_text_value k_INP_text_value k_TAKE_COMPLETE_text_value cs0 h0 v_ U2_.heap L_ ∧ CHr Z consts_1 U_.vm U_.heap U2_.vm U2_.heap ∧ ReturnedEndW U_ o_ U2_ L_ ({ frames := 4, cells := 6, slots := 12, locals := 66 } : Room).cells ({ frames := 4, cells := 6, slots := 12, locals := 66 } : Room).slots) := by
  refine MetFree.of_bodySF (plainFor_of_name own_pn4) hisR ?_
  intro p e s m args below meth c s₁ Bd hml0 hP hK
  obtain ⟨rfl, hZ, hh, hCH⟩ := hP
  have hx := Bd.exec
  have hby := Bd.bytes
  have hml : c.maxLocals = 6 := hml0
  have hown : s.vm.findClass "com/example/tuplebag/tuplebag/bench/WorkloadNamedPinLaw" = some m.cls := findClass_of_methodNamed Bd.named
  have hnm := (name_of_methodNamed Bd.named Bd.method).1
  have X0 : Stand p l e ({ frames := 4, cells := 6, slots := 12, locals := 66 } : Room) (s.setVm s.vm) m #[(.int x), (.int y)] below meth c s₁ [] 0 0 := Stand.of_body Bd
  have e0 : s₁.heap = h0 := by rw [← hh, Bd.state]; rfl
  have N0 := Fr.nil Z.heap.size
  have hS : s.Since s.vm s.heap.size := (State.WarmedH.refl _).since _
  have hk : s.heap.size ≤ h0.size := Nat.le_of_eq (congrArg Array.size hh)
  have hZ : Z.Warmed39 (s.setVm s.vm).vm := hZ
  have hown : (s.setVm s.vm).vm.findClass "com/example/tuplebag/tuplebag/bench/WorkloadNamedPinLaw" = some m.cls := hown
  show own_G p e below (fun o_ s₂ => ∃ v_ L_, o_ = .returned v_ ∧ Q_dw Z x y a_OUT a__VALUES a_INP a_TAKE_COMPLETE a_OUT_text a_INP_text a_TAKE_COMPLETE_text a_OUT_text_value a_INP_text_value a_TAKE_COMPLETE_text_value a_EM k__VALUES k_OUT_text_value k_INP_text_value k_TAKE_COMPLETE_text_value cs0 h0 v_ s₂.heap L_ ∧ CHr Z consts_1 s.vm s.heap s₂.vm s₂.heap ∧ ReturnedEndW s o_ s₂ L_ ({ frames := 4, cells := 6, slots := 12, locals := 66 } : Room).cells ({ frames := 4, cells := 6, slots := 12, locals := 66 } : Room).slots) (s₁.setTop (entryFrame m #[(.int x), (.int y)] 6))
  refine own_go (s₁.setTop (mkF m 0 #[.val (.int x), .val (.int y), .unset, .unset, .unset, .unset] [])) (fun t_ k_ => castTop (own_ef_dw m x y) k_) ?_
  have R0 := CHr.refl hCH
  have hEW : EW Z a0 consts_1 := own_EW hw
  have w' := w
  obtain ⟨S_OUT, X_OUT, S__VALUES, X__VALUES, S_INP, X_INP, S_TAKE_COMPLETE, X_TAKE_COMPLETE, F_OUT_text, X_OUT_text, F_INP_text, X_INP_text, F_TAKE_COMPLETE_text, X_TAKE_COMPLETE_text, F_OUT_text_value, F_INP_text_value, F_TAKE_COMPLETE_text_value, F_OUT_text_coder, F_INP_text_coder, F_TAKE_COMPLETE_text_coder, V__VALUES, V_OUT_text_value, V_INP_text_value, V_TAKE_COMPLETE_text_value, S_CS, n_CS, S_EM, X_EM, F_EM⟩ := w'
  refine own_go (s₁.setTop (mkF m 1 #[.val (.int x), .val (.int y), .unset, .unset, .unset, .unset] [(.int x)])) (fun t_ k_ => XS.iloadN X0.here hx rfl (hb hby own_d_method_3_0) rfl k_) ?_
  refine own_go (s₁.setTop (mkF m 4 #[.val (.int x), .val (.int y), .unset, .unset, .unset, .unset] [(.int (255 : Int32)), (.int x)])) (fun t_ k_ => XS.sipush X0.here hx rfl (hb hby own_d_method_3_1) k_) ?_
  refine own_go (s₁.setTop (mkF m 5 #[.val (.int x), .val (.int y), .unset, .unset, .unset, .unset] [(.int (x &&& (255 : Int32)))])) (fun t_ k_ => XS.iand X0.here hx rfl (hb hby own_d_method_3_4) rfl k_) ?_
  refine own_go (s₁.setTop (mkF m 6 #[.val (.int x), .val (.int y), .unset, .unset, .unset, .unset] [(.int ((x &&& (255 : Int32)).toUInt32.toUInt16.toUInt32.toInt32))])) (fun t_ k_ => XS.i2c X0.here hx rfl (hb hby own_d_method_3_5) rfl k_) ?_
  refine own_go (s₁.setTop (mkF m 7 #[.val (.int x), .val (.int y), .val (.int ((x &&& (255 : Int32)).toUInt32.toUInt16.toUInt32.toInt32)), .unset, .unset, .unset] [])) (fun t_ k_ => XS.istoreN X0.here hx rfl (hb hby own_d_method_3_6) rfl (l' := #[.val (.int x), .val (.int y), .val (.int ((x &&& (255 : Int32)).toUInt32.toUInt16.toUInt32.toInt32)), .unset, .unset, .unset]) rfl k_) ?_
  refine own_go (s₁.setTop (mkF m 8 #[.val (.int x), .val (.int y), .val (.int ((x &&& (255 : Int32)).toUInt32.toUInt16.toUInt32.toInt32)), .unset, .unset, .unset] [(.int x)])) (fun t_ k_ => XS.iloadN X0.here hx rfl (hb hby own_d_method_3_7) rfl k_) ?_
  refine own_go (s₁.setTop (mkF m 10 #[.val (.int x), .val (.int y), .val (.int ((x &&& (255 : Int32)).toUInt32.toUInt16.toUInt32.toInt32)), .unset, .unset, .unset] [(.int (8 : Int32)), (.int x)])) (fun t_ k_ => XS.bipush X0.here hx rfl (hb hby own_d_method_3_8) k_) ?_
  refine own_go (s₁.setTop (mkF m 11 #[.val (.int x), .val (.int y), .val (.int ((x &&& (255 : Int32)).toUInt32.toUInt16.toUInt32.toInt32)), .unset, .unset, .unset] [(.int ((x.toUInt32 >>> ((8 : Int32) &&& 31).toUInt32).toInt32))])) (fun t_ k_ => XS.iushr X0.here hx rfl (hb hby own_d_method_3_10) rfl k_) ?_
  refine own_go (s₁.setTop (mkF m 14 #[.val (.int x), .val (.int y), .val (.int ((x &&& (255 : Int32)).toUInt32.toUInt16.toUInt32.toInt32)), .unset, .unset, .unset] [(.int (255 : Int32)), (.int ((x.toUInt32 >>> ((8 : Int32) &&& 31).toUInt32).toInt32))])) (fun t_ k_ => XS.sipush X0.here hx rfl (hb hby own_d_method_3_11) k_) ?_
  refine own_go (s₁.setTop (mkF m 15 #[.val (.int x), .val (.int y), .val (.int ((x &&& (255 : Int32)).toUInt32.toUInt16.toUInt32.toInt32)), .unset, .unset, .unset] [(.int (((x.toUInt32 >>> ((8 : Int32) &&& 31).toUInt32).toInt32) &&& (255 : Int32)))])) (fun t_ k_ => XS.iand X0.here hx rfl (hb hby own_d_method_3_14) rfl k_) ?_
  refine own_go (s₁.setTop (mkF m 16 #[.val (.int x), .val (.int y), .val (.int ((x &&& (255 : Int32)).toUInt32.toUInt16.toUInt32.toInt32)), .unset, .unset, .unset] [(.int ((((x.toUInt32 >>> ((8 : Int32) &&& 31).toUInt32).toInt32) &&& (255 : Int32)).toUInt32.toUInt16.toUInt32.toInt32))])) (fun t_ k_ => XS.i2c X0.here hx rfl (hb hby own_d_method_3_15) rfl k_) ?_
  refine own_go (s₁.setTop (mkF m 17 #[.val (.int x), .val (.int y), .val (.int ((x &&& (255 : Int32)).toUInt32.toUInt16.toUInt32.toInt32)), .val (.int ((((x.toUInt32 >>> ((8 : Int32) &&& 31).toUInt32).toInt32) &&& (255 : Int32)).toUInt32.toUInt16.toUInt32.toInt32)), .unset, .unset] [])) (fun t_ k_ => XS.istoreN X0.here hx rfl (hb hby own_d_method_3_16) rfl (l' := #[.val (.int x), .val (.int y), .val (.int ((x &&& (255 : Int32)).toUInt32.toUInt16.toUInt32.toInt32)), .val (.int ((((x.toUInt32 >>> ((8 : Int32) &&& 31).toUInt32).toInt32) &&& (255 : Int32)).toUInt32.toUInt16.toUInt32.toInt32)), .unset, .unset]) rfl k_) ?_
  refine own_go (s₁.setTop (mkF m 18 #[.val (.int x), .val (.int y), .val (.int ((x &&& (255 : Int32)).toUInt32.toUInt16.toUInt32.toInt32)), .val (.int ((((x.toUInt32 >>> ((8 : Int32) &&& 31).toUInt32).toInt32) &&& (255 : Int32)).toUInt32.toUInt16.toUInt32.toInt32)), .unset, .unset] [(.int x)])) (fun t_ k_ => XS.iloadN X0.here hx rfl (hb hby own_d_method_3_17) rfl k_) ?_
  refine own_go (s₁.setTop (mkF m 20 #[.val (.int x), .val (.int y), .val (.int ((x &&& (255 : Int32)).toUInt32.toUInt16.toUInt32.toInt32)), .val (.int ((((x.toUInt32 >>> ((8 : Int32) &&& 31).toUInt32).toInt32) &&& (255 : Int32)).toUInt32.toUInt16.toUInt32.toInt32)), .unset, .unset] [(.int (16 : Int32)), (.int x)])) (fun t_ k_ => XS.bipush X0.here hx rfl (hb hby own_d_method_3_18) k_) ?_
  refine own_go (s₁.setTop (mkF m 21 #[.val (.int x), .val (.int y), .val (.int ((x &&& (255 : Int32)).toUInt32.toUInt16.toUInt32.toInt32)), .val (.int ((((x.toUInt32 >>> ((8 : Int32) &&& 31).toUInt32).toInt32) &&& (255 : Int32)).toUInt32.toUInt16.toUInt32.toInt32)), .unset, .unset] [(.int ((x.toUInt32 >>> ((16 : Int32) &&& 31).toUInt32).toInt32))])) (fun t_ k_ => XS.iushr X0.here hx rfl (hb hby own_d_method_3_20) rfl k_) ?_
  refine own_go (s₁.setTop (mkF m 24 #[.val (.int x), .val (.int y), .val (.int ((x &&& (255 : Int32)).toUInt32.toUInt16.toUInt32.toInt32)), .val (.int ((((x.toUInt32 >>> ((8 : Int32) &&& 31).toUInt32).toInt32) &&& (255 : Int32)).toUInt32.toUInt16.toUInt32.toInt32)), .unset, .unset] [(.int (255 : Int32)), (.int ((x.toUInt32 >>> ((16 : Int32) &&& 31).toUInt32).toInt32))])) (fun t_ k_ => XS.sipush X0.here hx rfl (hb hby own_d_method_3_21) k_) ?_
  refine own_go (s₁.setTop (mkF m 25 #[.val (.int x), .val (.int y), .val (.int ((x &&& (255 : Int32)).toUInt32.toUInt16.toUInt32.toInt32)), .val (.int ((((x.toUInt32 >>> ((8 : Int32) &&& 31).toUInt32).toInt32) &&& (255 : Int32)).toUInt32.toUInt16.toUInt32.toInt32)), .unset, .unset] [(.int (((x.toUInt32 >>> ((16 : Int32) &&& 31).toUInt32).toInt32) &&& (255 : Int32)))])) (fun t_ k_ => XS.iand X0.here hx rfl (hb hby own_d_method_3_24) rfl k_) ?_
  refine own_go (s₁.setTop (mkF m 26 #[.val (.int x), .val (.int y), .val (.int ((x &&& (255 : Int32)).toUInt32.toUInt16.toUInt32.toInt32)), .val (.int ((((x.toUInt32 >>> ((8 : Int32) &&& 31).toUInt32).toInt32) &&& (255 : Int32)).toUInt32.toUInt16.toUInt32.toInt32)), .unset, .unset] [(.int ((((x.toUInt32 >>> ((16 : Int32) &&& 31).toUInt32).toInt32) &&& (255 : Int32)).toUInt32.toUInt16.toUInt32.toInt32))])) (fun t_ k_ => XS.i2c X0.here hx rfl (hb hby own_d_method_3_25) rfl k_) ?_
  refine own_go (s₁.setTop (mkF m 28 #[.val (.int x), .val (.int y), .val (.int ((x &&& (255 : Int32)).toUInt32.toUInt16.toUInt32.toInt32)), .val (.int ((((x.toUInt32 >>> ((8 : Int32) &&& 31).toUInt32).toInt32) &&& (255 : Int32)).toUInt32.toUInt16.toUInt32.toInt32)), .val (.int ((((x.toUInt32 >>> ((16 : Int32) &&& 31).toUInt32).toInt32) &&& (255 : Int32)).toUInt32.toUInt16.toUInt32.toInt32)), .unset] [])) (fun t_ k_ => XS.istore X0.here hx rfl (hb hby own_d_method_3_26) rfl (l' := #[.val (.int x), .val (.int y), .val (.int ((x &&& (255 : Int32)).toUInt32.toUInt16.toUInt32.toInt32)), .val (.int ((((x.toUInt32 >>> ((8 : Int32) &&& 31).toUInt32).toInt32) &&& (255 : Int32)).toUInt32.toUInt16.toUInt32.toInt32)), .val (.int ((((x.toUInt32 >>> ((16 : Int32) &&& 31).toUInt32).toInt32) &&& (255 : Int32)).toUInt32.toUInt16.toUInt32.toInt32)), .unset]) rfl k_) ?_
  refine own_go (s₁.setTop (mkF m 29 #[.val (.int x), .val (.int y), .val (.int ((x &&& (255 : Int32)).toUInt32.toUInt16.toUInt32.toInt32)), .val (.int ((((x.toUInt32 >>> ((8 : Int32) &&& 31).toUInt32).toInt32) &&& (255 : Int32)).toUInt32.toUInt16.toUInt32.toInt32)), .val (.int ((((x.toUInt32 >>> ((16 : Int32) &&& 31).toUInt32).toInt32) &&& (255 : Int32)).toUInt32.toUInt16.toUInt32.toInt32)), .unset] [(.int y)])) (fun t_ k_ => XS.iloadN X0.here hx rfl (hb hby own_d_method_3_28) rfl k_) ?_
  by_cases hc29_1 : y = (0 : Int32)
  ·
    refine own_go (s₁.setTop (mkF m 32 #[.val (.int x), .val (.int y), .val (.int ((x &&& (255 : Int32)).toUInt32.toUInt16.toUInt32.toInt32)), .val (.int ((((x.toUInt32 >>> ((8 : Int32) &&& 31).toUInt32).toInt32) &&& (255 : Int32)).toUInt32.toUInt16.toUInt32.toInt32)), .val (.int ((((x.toUInt32 >>> ((16 : Int32) &&& 31).toUInt32).toInt32) &&& (255 : Int32)).toUInt32.toUInt16.toUInt32.toInt32)), .unset] [])) (fun t_ k_ => XS.ifNo X0.here hx rfl (hb hby own_d_method_3_29) rfl ((if0 _ _).trans (teq hc29_1).2) k_) ?_
    obtain ⟨T2, h2, X2, e2, E2, A2, D2, U2, st2⟩ := newO X0 hx hZ hown (hw _ (List.mem_of_getElem? (i := 83) rfl)) (hw _ (List.mem_of_getElem? (i := 3) rfl)) (hw _ (List.mem_of_getElem? (i := 2) rfl)) e0 (g := (mkF m 32 #[.val (.int x), .val (.int y), .val (.int ((x &&& (255 : Int32)).toUInt32.toUInt16.toUInt32.toInt32)), .val (.int ((((x.toUInt32 >>> ((8 : Int32) &&& 31).toUInt32).toInt32) &&& (255 : Int32)).toUInt32.toUInt16.toUInt32.toInt32)), .val (.int ((((x.toUInt32 >>> ((16 : Int32) &&& 31).toUInt32).toInt32) &&& (255 : Int32)).toUInt32.toUInt16.toUInt32.toInt32)), .unset] [])) rfl (hb hby own_d_method_3_32) (by decide) (by decide)
    obtain ⟨b2, g2⟩ : ∃ z, z = h0.size := ⟨_, rfl⟩
    rw [← g2] at A2 D2 U2 st2
    have ge_b2 : Z.heap.size ≤ b2 := Nat.le_trans O.1 (Nat.le_of_eq g2.symm)
    have sz_b2 : h0.size ≤ b2 := Nat.le_trans (Keep.refl h0 []).1 (Nat.le_of_eq g2.symm)
    have R2 := R0.trans (CHr.ext E2 R0.1)
    have Sf2 := Safe.ext (x := b2) E2 R0.1 (Safe.new (Nat.le_of_eq g2.symm))
    have K2 : Keep h0 h2 [] := (Keep.refl h0 []).ext E2
    have O2 := own_ext O E2
    have Fvalue_2 : Fld Z h2 b2 "java/lang/String" "value" "[B" .null := D2 (Or.inr (hw _ (List.mem_of_getElem? (i := 5) rfl))) (ty := (.array .byte)) (by decide)
    have Fcoder_2 : Fld Z h2 b2 "java/lang/String" "coder" "B" (.int (0 : Int32)) := D2 (Or.inr (hw _ (List.mem_of_getElem? (i := 6) rfl))) (ty := .byte) (by decide)
    refine own_go (T2.setTop (mkF m 35 #[.val (.int x), .val (.int y), .val (.int ((x &&& (255 : Int32)).toUInt32.toUInt16.toUInt32.toInt32)), .val (.int ((((x.toUInt32 >>> ((8 : Int32) &&& 31).toUInt32).toInt32) &&& (255 : Int32)).toUInt32.toUInt16.toUInt32.toInt32)), .val (.int ((((x.toUInt32 >>> ((16 : Int32) &&& 31).toUInt32).toInt32) &&& (255 : Int32)).toUInt32.toUInt16.toUInt32.toInt32)), .unset] [(.ref b2)])) (fun t_ k_ => st2 _ k_) ?_
    refine own_go (T2.setTop (mkF m 36 #[.val (.int x), .val (.int y), .val (.int ((x &&& (255 : Int32)).toUInt32.toUInt16.toUInt32.toInt32)), .val (.int ((((x.toUInt32 >>> ((8 : Int32) &&& 31).toUInt32).toInt32) &&& (255 : Int32)).toUInt32.toUInt16.toUInt32.toInt32)), .val (.int ((((x.toUInt32 >>> ((16 : Int32) &&& 31).toUInt32).toInt32) &&& (255 : Int32)).toUInt32.toUInt16.toUInt32.toInt32)), .unset] [(.ref b2), (.ref b2)])) (fun t_ k_ => XS.dup X2.here hx rfl (hb hby own_d_method_3_35) rfl rfl k_) ?_
    refine own_go (T2.setTop (mkF m 37 #[.val (.int x), .val (.int y), .val (.int ((x &&& (255 : Int32)).toUInt32.toUInt16.toUInt32.toInt32)), .val (.int ((((x.toUInt32 >>> ((8 : Int32) &&& 31).toUInt32).toInt32) &&& (255 : Int32)).toUInt32.toUInt16.toUInt32.toInt32)), .val (.int ((((x.toUInt32 >>> ((16 : Int32) &&& 31).toUInt32).toInt32) &&& (255 : Int32)).toUInt32.toUInt16.toUInt32.toInt32)), .unset] [(.int (0 : Int32)), (.ref b2), (.ref b2)])) (fun t_ k_ => XS.iconst X2.here hx rfl (hb hby own_d_method_3_36) k_) ?_
    obtain ⟨T3, h3, k3, X3, e3, E3, A3, st3⟩ := newP X2 hx hZ (hw _ (List.mem_of_getElem? (i := 82) rfl)) e2 (g := (mkF m 37 #[.val (.int x), .val (.int y), .val (.int ((x &&& (255 : Int32)).toUInt32.toUInt16.toUInt32.toInt32)), .val (.int ((((x.toUInt32 >>> ((8 : Int32) &&& 31).toUInt32).toInt32) &&& (255 : Int32)).toUInt32.toUInt16.toUInt32.toInt32)), .val (.int ((((x.toUInt32 >>> ((16 : Int32) &&& 31).toUInt32).toInt32) &&& (255 : Int32)).toUInt32.toUInt16.toUInt32.toInt32)), .unset] [(.int (0 : Int32)), (.ref b2), (.ref b2)])) rfl (hb hby own_d_method_3_37) rfl (by decide) (cap := 0) (by decide) (by decide) (by decide) (by decide)
    obtain ⟨b3, g3⟩ : ∃ z, z = h2.size := ⟨_, rfl⟩
    rw [← g3] at A3 st3
    have ge_b3 : Z.heap.size ≤ b3 := Nat.le_trans O2.1 (Nat.le_of_eq g3.symm)
    have sz_b3 : h0.size ≤ b3 := Nat.le_trans K2.1 (Nat.le_of_eq g3.symm)
    have R3 := R2.trans (CHr.ext E3 R2.1)
    have Sf3 := Safe.ext (x := b3) E3 R2.1 (Safe.new (Nat.le_of_eq g3.symm))
    have K3 : Keep h0 h3 [] := K2.ext E3
    have O3 := own_ext O2 E3
    have V3 : Arv Z h3 b3 k3 .char (0 : Int32) [] (.int (0 : Int32)) := (Arv.new A3 (by decide)).pad (pad_rep [] (.int (0 : Int32)) 0)
    refine own_go (T3.setTop (mkF m 39 #[.val (.int x), .val (.int y), .val (.int ((x &&& (255 : Int32)).toUInt32.toUInt16.toUInt32.toInt32)), .val (.int ((((x.toUInt32 >>> ((8 : Int32) &&& 31).toUInt32).toInt32) &&& (255 : Int32)).toUInt32.toUInt16.toUInt32.toInt32)), .val (.int ((((x.toUInt32 >>> ((16 : Int32) &&& 31).toUInt32).toInt32) &&& (255 : Int32)).toUInt32.toUInt16.toUInt32.toInt32)), .unset] [(.ref b3), (.ref b2), (.ref b2)])) (fun t_ k_ => st3 _ k_) ?_
    have Fz4 := (A2.ext E3)
    have Fz5 := (Fvalue_2.ext E3)
    have Fz6 := (Fcoder_2.ext E3)
    obtain ⟨_, _, ⟨T7, Lu7, ku7, nu7⟩, -, X7, hS7, hg7, ⟨Lc7, hQ7, lu7, yu7, zu7, C7⟩, st7⟩ := X3.specialBackS hx (y := (⟨"java/lang/String", "<init>", "([C)V"⟩ : MethodName)) rfl hown (mvT hZ (hw _ (List.mem_of_getElem? (i := 84) rfl))) (mvT hZ (hw _ (List.mem_of_getElem? (i := 85) rfl))) (mvT hZ (hw _ (List.mem_of_getElem? (i := 86) rfl))) (by decide) (backOfSH (W := 1) (rm_i1 l Z a0 hw [] (b2) (b3) (k3) (a_OUT) (a__VALUES) (a_INP) (a_TAKE_COMPLETE) (a_OUT_text) (a_INP_text) (a_TAKE_COMPLETE_text) (a_OUT_text_value) (a_INP_text_value) (a_TAKE_COMPLETE_text_value) (a_EM) (k__VALUES) (k_OUT_text_value) (k_INP_text_value) (k_TAKE_COMPLETE_text_value) (cs0) h3 O3 w Fz4 Fz5 Fz6 ge_b2 V3) hZ (hw _ (List.mem_of_getElem? (i := 86) rfl)) (hw _ (List.mem_of_getElem? (i := 2) rfl)) (by decide) (by decide) hEW R3.1) (g := (mkF m 39 #[.val (.int x), .val (.int y), .val (.int ((x &&& (255 : Int32)).toUInt32.toUInt16.toUInt32.toInt32)), .val (.int ((((x.toUInt32 >>> ((8 : Int32) &&& 31).toUInt32).toInt32) &&& (255 : Int32)).toUInt32.toUInt16.toUInt32.toInt32)), .val (.int ((((x.toUInt32 >>> ((16 : Int32) &&& 31).toUInt32).toInt32) &&& (255 : Int32)).toUInt32.toUInt16.toUInt32.toInt32)), .unset] [(.ref b3), (.ref b2), (.ref b2)])) rfl (by rw [hml]; rfl) (Steps.refl _) (a := b2) (argsL := [(.ref b3)]) (rest := [(.ref b2)]) (lenOf own_pd7 rfl) rfl (by show 2 * 0 + _ ≤ _; exact Nat.le_of_eq rfl) (hb hby own_d_method_3_39) (fun _ _ => ⟨rfl, e3, (by decide : 2 + 4 ≤ _), (by decide : 4 + 8 ≤ _)⟩)
    dsimp only [Pt.U, Pt.locs, Pt.cells, Pt.slots] at X7 lu7 yu7 zu7 st7 hQ7 hS7 hg7 C7
    subst lu7 yu7 zu7
    obtain ⟨X7, hS, hZ, hown⟩ := rebS hS (by rw [show T3.heap = h3 from e3]; exact (Nat.le_trans (Nat.le_trans hk E2.1) E3.1)) X7 hS7 hg7 hZ hown
    have R7 := R3.trans C7
    obtain ⟨t7, kb7, rfl, N7q, K7q, X7q, F7q, G7q, A7q⟩ := hQ7
    have N7 := Fr.app N0 N7q
    have O7 := own_extK O3 K7q (allS ge_b2 all0)
    have KK7 : Keep h0 T7.heap [] := K3.trans K7q (allS (Or.inr sz_b2) all0)
    have Fz8 := (Safe.ext E3 R2.1 Sf2)
    refine own_go (T7.setTop (mkF m 42 #[.val (.int x), .val (.int y), .val (.int ((x &&& (255 : Int32)).toUInt32.toUInt16.toUInt32.toInt32)), .val (.int ((((x.toUInt32 >>> ((8 : Int32) &&& 31).toUInt32).toInt32) &&& (255 : Int32)).toUInt32.toUInt16.toUInt32.toInt32)), .val (.int ((((x.toUInt32 >>> ((16 : Int32) &&& 31).toUInt32).toInt32) &&& (255 : Int32)).toUInt32.toUInt16.toUInt32.toInt32)), .unset] [(.ref b2)])) (fun t_ k_ => st7.trans k_) ?_
    refine own_go (T7.setTop (mkF m 44 #[.val (.int x), .val (.int y), .val (.int ((x &&& (255 : Int32)).toUInt32.toUInt16.toUInt32.toInt32)), .val (.int ((((x.toUInt32 >>> ((8 : Int32) &&& 31).toUInt32).toInt32) &&& (255 : Int32)).toUInt32.toUInt16.toUInt32.toInt32)), .val (.int ((((x.toUInt32 >>> ((16 : Int32) &&& 31).toUInt32).toInt32) &&& (255 : Int32)).toUInt32.toUInt16.toUInt32.toInt32)), .val (.ref b2)] [])) (fun t_ k_ => XS.astore X7.here hx rfl (hb hby own_d_method_3_42) rfl rfl (l' := #[.val (.int x), .val (.int y), .val (.int ((x &&& (255 : Int32)).toUInt32.toUInt16.toUInt32.toInt32)), .val (.int ((((x.toUInt32 >>> ((8 : Int32) &&& 31).toUInt32).toInt32) &&& (255 : Int32)).toUInt32.toUInt16.toUInt32.toInt32)), .val (.int ((((x.toUInt32 >>> ((16 : Int32) &&& 31).toUInt32).toInt32) &&& (255 : Int32)).toUInt32.toUInt16.toUInt32.toInt32)), .val (.ref b2)]) rfl k_) ?_
    refine own_go (T7.setTop (mkF m 124 #[.val (.int x), .val (.int y), .val (.int ((x &&& (255 : Int32)).toUInt32.toUInt16.toUInt32.toInt32)), .val (.int ((((x.toUInt32 >>> ((8 : Int32) &&& 31).toUInt32).toInt32) &&& (255 : Int32)).toUInt32.toUInt16.toUInt32.toInt32)), .val (.int ((((x.toUInt32 >>> ((16 : Int32) &&& 31).toUInt32).toInt32) &&& (255 : Int32)).toUInt32.toUInt16.toUInt32.toInt32)), .val (.ref b2)] [])) (fun t_ k_ => XS.goto X7.here hx rfl (pc0 := 44) (pc' := 124) rfl (hb hby own_d_method_3_44) (by decide) (by decide) k_) ?_
    refine own_go (T7.setTop (mkF m 126 #[.val (.int x), .val (.int y), .val (.int ((x &&& (255 : Int32)).toUInt32.toUInt16.toUInt32.toInt32)), .val (.int ((((x.toUInt32 >>> ((8 : Int32) &&& 31).toUInt32).toInt32) &&& (255 : Int32)).toUInt32.toUInt16.toUInt32.toInt32)), .val (.int ((((x.toUInt32 >>> ((16 : Int32) &&& 31).toUInt32).toInt32) &&& (255 : Int32)).toUInt32.toUInt16.toUInt32.toInt32)), .val (.ref b2)] [(.ref b2)])) (fun t_ k_ => XS.aload X7.here hx rfl (hb hby own_d_method_3_124) rfl rfl k_) ?_
    obtain ⟨fs, hr, hrun, hended, hRW⟩ := X7.leaveW hS (by rw [show T7.heap = T7.heap from rfl]; exact (Nat.le_refl _)) (v := some (.ref b2)) (fun h => by rw [Bd.returns] at h; cases h)
    refine ⟨_, _, Jvm.RoadKit.retOut X7 hx Bd.returns rfl (Or.inr (Or.inr (Or.inr (Or.inr ⟨rfl, rfl, rfl⟩)))) (hb hby own_d_method_3_126) hr, hrun, hended, _, _, rfl, ?_, (by rw [hh]; show CHr Z consts_1 s.vm h0 T7.vm T7.heap; rw [show T7.heap = T7.heap from rfl]; exact R7.trans (CHv.at X7 hZ hEW R7.1)), hRW.1, hRW.2.1, hRW.2.2.1, hRW.2.2.2.mono (by decide) (by decide)⟩
    show Q_dw Z x y a_OUT a__VALUES a_INP a_TAKE_COMPLETE a_OUT_text a_INP_text a_TAKE_COMPLETE_text a_OUT_text_value a_INP_text_value a_TAKE_COMPLETE_text_value a_EM k__VALUES k_OUT_text_value k_INP_text_value k_TAKE_COMPLETE_text_value cs0 h0 _ T7.heap _
    rw [show T7.heap = T7.heap from rfl]
    exact ⟨_, _, _, ([] : List Int32), rfl, N7, own_all0, Nat.le_of_ble_eq_true rfl, KK7, X7q, F7q, G7q, A7q⟩
  ·
    refine own_go (s₁.setTop (mkF m 47 #[.val (.int x), .val (.int y), .val (.int ((x &&& (255 : Int32)).toUInt32.toUInt16.toUInt32.toInt32)), .val (.int ((((x.toUInt32 >>> ((8 : Int32) &&& 31).toUInt32).toInt32) &&& (255 : Int32)).toUInt32.toUInt16.toUInt32.toInt32)), .val (.int ((((x.toUInt32 >>> ((16 : Int32) &&& 31).toUInt32).toInt32) &&& (255 : Int32)).toUInt32.toUInt16.toUInt32.toInt32)), .unset] [])) (fun t_ k_ => XS.ifYes X0.here hx rfl (pc0 := 29) (pc' := 47) rfl (hb hby own_d_method_3_29) rfl ((if0 _ _).trans (feq hc29_1).2) (by decide) (by decide) k_) ?_
    refine own_go (s₁.setTop (mkF m 48 #[.val (.int x), .val (.int y), .val (.int ((x &&& (255 : Int32)).toUInt32.toUInt16.toUInt32.toInt32)), .val (.int ((((x.toUInt32 >>> ((8 : Int32) &&& 31).toUInt32).toInt32) &&& (255 : Int32)).toUInt32.toUInt16.toUInt32.toInt32)), .val (.int ((((x.toUInt32 >>> ((16 : Int32) &&& 31).toUInt32).toInt32) &&& (255 : Int32)).toUInt32.toUInt16.toUInt32.toInt32)), .unset] [(.int y)])) (fun t_ k_ => XS.iloadN X0.here hx rfl (hb hby own_d_method_3_47) rfl k_) ?_
    refine own_go (s₁.setTop (mkF m 49 #[.val (.int x), .val (.int y), .val (.int ((x &&& (255 : Int32)).toUInt32.toUInt16.toUInt32.toInt32)), .val (.int ((((x.toUInt32 >>> ((8 : Int32) &&& 31).toUInt32).toInt32) &&& (255 : Int32)).toUInt32.toUInt16.toUInt32.toInt32)), .val (.int ((((x.toUInt32 >>> ((16 : Int32) &&& 31).toUInt32).toInt32) &&& (255 : Int32)).toUInt32.toUInt16.toUInt32.toInt32)), .unset] [(.int (1 : Int32)), (.int y)])) (fun t_ k_ => XS.iconst X0.here hx rfl (hb hby own_d_method_3_48) k_) ?_
    by_cases hc49_9 : y = (1 : Int32)
    ·
      refine own_go (s₁.setTop (mkF m 52 #[.val (.int x), .val (.int y), .val (.int ((x &&& (255 : Int32)).toUInt32.toUInt16.toUInt32.toInt32)), .val (.int ((((x.toUInt32 >>> ((8 : Int32) &&& 31).toUInt32).toInt32) &&& (255 : Int32)).toUInt32.toUInt16.toUInt32.toInt32)), .val (.int ((((x.toUInt32 >>> ((16 : Int32) &&& 31).toUInt32).toInt32) &&& (255 : Int32)).toUInt32.toUInt16.toUInt32.toInt32)), .unset] [])) (fun t_ k_ => XS.icmpNo X0.here hx rfl (hb hby own_d_method_3_49) rfl (teq hc49_9).2 k_) ?_
      obtain ⟨T10, h10, X10, e10, E10, A10, D10, U10, st10⟩ := newO X0 hx hZ hown (hw _ (List.mem_of_getElem? (i := 83) rfl)) (hw _ (List.mem_of_getElem? (i := 3) rfl)) (hw _ (List.mem_of_getElem? (i := 2) rfl)) e0 (g := (mkF m 52 #[.val (.int x), .val (.int y), .val (.int ((x &&& (255 : Int32)).toUInt32.toUInt16.toUInt32.toInt32)), .val (.int ((((x.toUInt32 >>> ((8 : Int32) &&& 31).toUInt32).toInt32) &&& (255 : Int32)).toUInt32.toUInt16.toUInt32.toInt32)), .val (.int ((((x.toUInt32 >>> ((16 : Int32) &&& 31).toUInt32).toInt32) &&& (255 : Int32)).toUInt32.toUInt16.toUInt32.toInt32)), .unset] [])) rfl (hb hby own_d_method_3_52) (by decide) (by decide)
      obtain ⟨b10, g10⟩ : ∃ z, z = h0.size := ⟨_, rfl⟩
      rw [← g10] at A10 D10 U10 st10
      have ge_b10 : Z.heap.size ≤ b10 := Nat.le_trans O.1 (Nat.le_of_eq g10.symm)
      have sz_b10 : h0.size ≤ b10 := Nat.le_trans (Keep.refl h0 []).1 (Nat.le_of_eq g10.symm)
      have R10 := R0.trans (CHr.ext E10 R0.1)
      have Sf10 := Safe.ext (x := b10) E10 R0.1 (Safe.new (Nat.le_of_eq g10.symm))
      have K10 : Keep h0 h10 [] := (Keep.refl h0 []).ext E10
      have O10 := own_ext O E10
      have Fvalue_10 : Fld Z h10 b10 "java/lang/String" "value" "[B" .null := D10 (Or.inr (hw _ (List.mem_of_getElem? (i := 5) rfl))) (ty := (.array .byte)) (by decide)
      have Fcoder_10 : Fld Z h10 b10 "java/lang/String" "coder" "B" (.int (0 : Int32)) := D10 (Or.inr (hw _ (List.mem_of_getElem? (i := 6) rfl))) (ty := .byte) (by decide)
      refine own_go (T10.setTop (mkF m 55 #[.val (.int x), .val (.int y), .val (.int ((x &&& (255 : Int32)).toUInt32.toUInt16.toUInt32.toInt32)), .val (.int ((((x.toUInt32 >>> ((8 : Int32) &&& 31).toUInt32).toInt32) &&& (255 : Int32)).toUInt32.toUInt16.toUInt32.toInt32)), .val (.int ((((x.toUInt32 >>> ((16 : Int32) &&& 31).toUInt32).toInt32) &&& (255 : Int32)).toUInt32.toUInt16.toUInt32.toInt32)), .unset] [(.ref b10)])) (fun t_ k_ => st10 _ k_) ?_
      refine own_go (T10.setTop (mkF m 56 #[.val (.int x), .val (.int y), .val (.int ((x &&& (255 : Int32)).toUInt32.toUInt16.toUInt32.toInt32)), .val (.int ((((x.toUInt32 >>> ((8 : Int32) &&& 31).toUInt32).toInt32) &&& (255 : Int32)).toUInt32.toUInt16.toUInt32.toInt32)), .val (.int ((((x.toUInt32 >>> ((16 : Int32) &&& 31).toUInt32).toInt32) &&& (255 : Int32)).toUInt32.toUInt16.toUInt32.toInt32)), .unset] [(.ref b10), (.ref b10)])) (fun t_ k_ => XS.dup X10.here hx rfl (hb hby own_d_method_3_55) rfl rfl k_) ?_
      refine own_go (T10.setTop (mkF m 57 #[.val (.int x), .val (.int y), .val (.int ((x &&& (255 : Int32)).toUInt32.toUInt16.toUInt32.toInt32)), .val (.int ((((x.toUInt32 >>> ((8 : Int32) &&& 31).toUInt32).toInt32) &&& (255 : Int32)).toUInt32.toUInt16.toUInt32.toInt32)), .val (.int ((((x.toUInt32 >>> ((16 : Int32) &&& 31).toUInt32).toInt32) &&& (255 : Int32)).toUInt32.toUInt16.toUInt32.toInt32)), .unset] [(.int (1 : Int32)), (.ref b10), (.ref b10)])) (fun t_ k_ => XS.iconst X10.here hx rfl (hb hby own_d_method_3_56) k_) ?_
      obtain ⟨T11, h11, k11, X11, e11, E11, A11, st11⟩ := newP X10 hx hZ (hw _ (List.mem_of_getElem? (i := 82) rfl)) e10 (g := (mkF m 57 #[.val (.int x), .val (.int y), .val (.int ((x &&& (255 : Int32)).toUInt32.toUInt16.toUInt32.toInt32)), .val (.int ((((x.toUInt32 >>> ((8 : Int32) &&& 31).toUInt32).toInt32) &&& (255 : Int32)).toUInt32.toUInt16.toUInt32.toInt32)), .val (.int ((((x.toUInt32 >>> ((16 : Int32) &&& 31).toUInt32).toInt32) &&& (255 : Int32)).toUInt32.toUInt16.toUInt32.toInt32)), .unset] [(.int (1 : Int32)), (.ref b10), (.ref b10)])) rfl (hb hby own_d_method_3_57) rfl (by decide) (cap := 1) (by decide) (by decide) (by decide) (by decide)
      obtain ⟨b11, g11⟩ : ∃ z, z = h10.size := ⟨_, rfl⟩
      rw [← g11] at A11 st11
      have ge_b11 : Z.heap.size ≤ b11 := Nat.le_trans O10.1 (Nat.le_of_eq g11.symm)
      have sz_b11 : h0.size ≤ b11 := Nat.le_trans K10.1 (Nat.le_of_eq g11.symm)
      have R11 := R10.trans (CHr.ext E11 R10.1)
      have Sf11 := Safe.ext (x := b11) E11 R10.1 (Safe.new (Nat.le_of_eq g11.symm))
      have K11 : Keep h0 h11 [] := K10.ext E11
      have O11 := own_ext O10 E11
      have V11 : Arv Z h11 b11 k11 .char (1 : Int32) [(.int (0 : Int32))] (.int (0 : Int32)) := (Arv.new A11 (by decide)).pad (pad_rep [] (.int (0 : Int32)) 1)
      refine own_go (T11.setTop (mkF m 59 #[.val (.int x), .val (.int y), .val (.int ((x &&& (255 : Int32)).toUInt32.toUInt16.toUInt32.toInt32)), .val (.int ((((x.toUInt32 >>> ((8 : Int32) &&& 31).toUInt32).toInt32) &&& (255 : Int32)).toUInt32.toUInt16.toUInt32.toInt32)), .val (.int ((((x.toUInt32 >>> ((16 : Int32) &&& 31).toUInt32).toInt32) &&& (255 : Int32)).toUInt32.toUInt16.toUInt32.toInt32)), .unset] [(.ref b11), (.ref b10), (.ref b10)])) (fun t_ k_ => st11 _ k_) ?_
      refine own_go (T11.setTop (mkF m 60 #[.val (.int x), .val (.int y), .val (.int ((x &&& (255 : Int32)).toUInt32.toUInt16.toUInt32.toInt32)), .val (.int ((((x.toUInt32 >>> ((8 : Int32) &&& 31).toUInt32).toInt32) &&& (255 : Int32)).toUInt32.toUInt16.toUInt32.toInt32)), .val (.int ((((x.toUInt32 >>> ((16 : Int32) &&& 31).toUInt32).toInt32) &&& (255 : Int32)).toUInt32.toUInt16.toUInt32.toInt32)), .unset] [(.ref b11), (.ref b11), (.ref b10), (.ref b10)])) (fun t_ k_ => XS.dup X11.here hx rfl (hb hby own_d_method_3_59) rfl rfl k_) ?_
      refine own_go (T11.setTop (mkF m 61 #[.val (.int x), .val (.int y), .val (.int ((x &&& (255 : Int32)).toUInt32.toUInt16.toUInt32.toInt32)), .val (.int ((((x.toUInt32 >>> ((8 : Int32) &&& 31).toUInt32).toInt32) &&& (255 : Int32)).toUInt32.toUInt16.toUInt32.toInt32)), .val (.int ((((x.toUInt32 >>> ((16 : Int32) &&& 31).toUInt32).toInt32) &&& (255 : Int32)).toUInt32.toUInt16.toUInt32.toInt32)), .unset] [(.int (0 : Int32)), (.ref b11), (.ref b11), (.ref b10), (.ref b10)])) (fun t_ k_ => XS.iconst X11.here hx rfl (hb hby own_d_method_3_60) k_) ?_
      refine own_go (T11.setTop (mkF m 62 #[.val (.int x), .val (.int y), .val (.int ((x &&& (255 : Int32)).toUInt32.toUInt16.toUInt32.toInt32)), .val (.int ((((x.toUInt32 >>> ((8 : Int32) &&& 31).toUInt32).toInt32) &&& (255 : Int32)).toUInt32.toUInt16.toUInt32.toInt32)), .val (.int ((((x.toUInt32 >>> ((16 : Int32) &&& 31).toUInt32).toInt32) &&& (255 : Int32)).toUInt32.toUInt16.toUInt32.toInt32)), .unset] [(.int ((x &&& (255 : Int32)).toUInt32.toUInt16.toUInt32.toInt32)), (.int (0 : Int32)), (.ref b11), (.ref b11), (.ref b10), (.ref b10)])) (fun t_ k_ => XS.iloadN X11.here hx rfl (hb hby own_d_method_3_61) rfl k_) ?_
      obtain ⟨cl12, Ar12, q12, Sz12, Nz12, Hz12, Gz12⟩ := id (V11)
      have hin12 : ¬ ((0 : Int32) < 0 ∨ cl12.slots.size ≤ ((0 : Int32)).toNatClampNeg) := inb_of Sz12 ⟨by decide, by decide⟩
      obtain ⟨T12, h12, X12, e12, W12, st12⟩ := stC X11 hx hZ e11 Ar12 (j := (0 : Int32)) hin12  (g := (mkF m 62 #[.val (.int x), .val (.int y), .val (.int ((x &&& (255 : Int32)).toUInt32.toUInt16.toUInt32.toInt32)), .val (.int ((((x.toUInt32 >>> ((8 : Int32) &&& 31).toUInt32).toInt32) &&& (255 : Int32)).toUInt32.toUInt16.toUInt32.toInt32)), .val (.int ((((x.toUInt32 >>> ((16 : Int32) &&& 31).toUInt32).toInt32) &&& (255 : Int32)).toUInt32.toUInt16.toUInt32.toInt32)), .unset] [(.int ((x &&& (255 : Int32)).toUInt32.toUInt16.toUInt32.toInt32)), (.int (0 : Int32)), (.ref b11), (.ref b11), (.ref b10), (.ref b10)])) rfl rfl (hb hby own_d_method_3_62)
      have R12 := R11.trans (CHr.wr W12 Sf11 R11.1)
      have V12 : Arv Z h12 b11 k11 .char (1 : Int32) [(.int (nar .char ((x &&& (255 : Int32)).toUInt32.toUInt16.toUInt32.toInt32)))] (.int (0 : Int32)) := Arv.set Ar12 q12 Sz12 Nz12 Hz12 Gz12 (fits_nar_char _) W12 0 rfl (Nat.le_of_ble_eq_true rfl)
      have K12 : Keep h0 h12 [] := K11.wr W12 (Or.inr sz_b11)
      have N12 := Fr.snoc X12 N0 ge_b11
      have O12 := own_extW O11 W12 ge_b11
      refine own_go (T12.setTop (mkF m 63 #[.val (.int x), .val (.int y), .val (.int ((x &&& (255 : Int32)).toUInt32.toUInt16.toUInt32.toInt32)), .val (.int ((((x.toUInt32 >>> ((8 : Int32) &&& 31).toUInt32).toInt32) &&& (255 : Int32)).toUInt32.toUInt16.toUInt32.toInt32)), .val (.int ((((x.toUInt32 >>> ((16 : Int32) &&& 31).toUInt32).toInt32) &&& (255 : Int32)).toUInt32.toUInt16.toUInt32.toInt32)), .unset] [(.ref b11), (.ref b10), (.ref b10)])) (fun t_ k_ => st12 _ k_) ?_
      have hp13 : ∀ c ∈ ([(nar .char ((x &&& (255 : Int32)).toUInt32.toUInt16.toUInt32.toInt32))] : List Int32), ¬ c < 0 ∧ ¬ (255 : Int32) < c := (own_allS (own_c255 x) own_all0)
      have Fz14 := ((A10.ext E11).wr W12)
      have Nz15 : b10 ≠ b11 := (Nat.ne_of_lt (Nat.lt_of_lt_of_le A10.lt (Nat.le_of_eq g11.symm)))
      have Fz16 := ((Fvalue_10.ext E11).other W12 (Or.inl Nz15))
      have Fz17 := ((Fcoder_10.ext E11).other W12 (Or.inl Nz15))
      obtain ⟨_, _, ⟨T18, Lu18, ku18, nu18⟩, -, X18, ⟨Lc18, hQ18, lu18, yu18, zu18⟩, st18⟩ := X12.specialBack hx (y := (⟨"java/lang/String", "<init>", "([C)V"⟩ : MethodName)) rfl hown (mvT hZ (hw _ (List.mem_of_getElem? (i := 84) rfl))) (mvT hZ (hw _ (List.mem_of_getElem? (i := 85) rfl))) (mvT hZ (hw _ (List.mem_of_getElem? (i := 86) rfl))) (by decide) (StrChars.Road.backV (W := 1) hZ (fun d hd => hw d (own_words d hd)) (kI := 4) (hw _ (List.mem_of_getElem? (i := 3) rfl)) (cs := ([(nar .char ((x &&& (255 : Int32)).toUInt32.toUInt16.toUInt32.toInt32))] : List Int32)) (bs := (([(nar .char ((x &&& (255 : Int32)).toUInt32.toUInt16.toUInt32.toInt32))] : List Int32)).map (fun c => c.toInt8.toInt32)) (n := 1) (n0 := Z.heap.size) ge_b10 (O12.1) Fz14 Fz16 Fz17 V12 (S_CS.ext O12) n_CS rfl rfl (by decide) (by decide) hp13 rfl (by decide) (by decide)) (g := (mkF m 63 #[.val (.int x), .val (.int y), .val (.int ((x &&& (255 : Int32)).toUInt32.toUInt16.toUInt32.toInt32)), .val (.int ((((x.toUInt32 >>> ((8 : Int32) &&& 31).toUInt32).toInt32) &&& (255 : Int32)).toUInt32.toUInt16.toUInt32.toInt32)), .val (.int ((((x.toUInt32 >>> ((16 : Int32) &&& 31).toUInt32).toInt32) &&& (255 : Int32)).toUInt32.toUInt16.toUInt32.toInt32)), .unset] [(.ref b11), (.ref b10), (.ref b10)])) rfl (by rw [hml]; rfl) (Steps.refl _) (a := b10) (argsL := [(.ref b11)]) (rest := [(.ref b10)]) (lenOf own_pd7 rfl) rfl (by show 2 * 0 + _ ≤ _; exact Nat.le_of_eq rfl) (hb hby own_d_method_3_63) (fun _ _ => ⟨rfl, e12, (by decide : 2 + 1 ≤ _), (by decide : 5 + 1 ≤ _)⟩)
      dsimp only [Pt.U, Pt.locs, Pt.cells, Pt.slots] at X18 lu18 yu18 zu18 st18 hQ18
      subst lu18 yu18 zu18
      obtain ⟨rfl, N18q, K18q, X18q, C18q, t18, kb18, u1_18, u2_18, u3_18, V18q, A18q⟩ := hQ18
      have N18 := Fr.app N12 N18q
      have O18 := own_extK O12 K18q (allS ge_b10 all0)
      have KK18 : Keep h0 T18.heap [] := K12.trans K18q (allS (Or.inr sz_b10) all0)
      have Fz19 := (Safe.wr W12 Sf11 R11.1 (Safe.ext E11 R10.1 Sf10))
      have R18 := R12.trans (CHr.keep K18q (allS Fz19 all0) R12.1)
      refine own_go (T18.setTop (mkF m 66 #[.val (.int x), .val (.int y), .val (.int ((x &&& (255 : Int32)).toUInt32.toUInt16.toUInt32.toInt32)), .val (.int ((((x.toUInt32 >>> ((8 : Int32) &&& 31).toUInt32).toInt32) &&& (255 : Int32)).toUInt32.toUInt16.toUInt32.toInt32)), .val (.int ((((x.toUInt32 >>> ((16 : Int32) &&& 31).toUInt32).toInt32) &&& (255 : Int32)).toUInt32.toUInt16.toUInt32.toInt32)), .unset] [(.ref b10)])) (fun t_ k_ => st18.trans k_) ?_
      refine own_go (T18.setTop (mkF m 68 #[.val (.int x), .val (.int y), .val (.int ((x &&& (255 : Int32)).toUInt32.toUInt16.toUInt32.toInt32)), .val (.int ((((x.toUInt32 >>> ((8 : Int32) &&& 31).toUInt32).toInt32) &&& (255 : Int32)).toUInt32.toUInt16.toUInt32.toInt32)), .val (.int ((((x.toUInt32 >>> ((16 : Int32) &&& 31).toUInt32).toInt32) &&& (255 : Int32)).toUInt32.toUInt16.toUInt32.toInt32)), .val (.ref b10)] [])) (fun t_ k_ => XS.astore X18.here hx rfl (hb hby own_d_method_3_66) rfl rfl (l' := #[.val (.int x), .val (.int y), .val (.int ((x &&& (255 : Int32)).toUInt32.toUInt16.toUInt32.toInt32)), .val (.int ((((x.toUInt32 >>> ((8 : Int32) &&& 31).toUInt32).toInt32) &&& (255 : Int32)).toUInt32.toUInt16.toUInt32.toInt32)), .val (.int ((((x.toUInt32 >>> ((16 : Int32) &&& 31).toUInt32).toInt32) &&& (255 : Int32)).toUInt32.toUInt16.toUInt32.toInt32)), .val (.ref b10)]) rfl k_) ?_
      refine own_go (T18.setTop (mkF m 124 #[.val (.int x), .val (.int y), .val (.int ((x &&& (255 : Int32)).toUInt32.toUInt16.toUInt32.toInt32)), .val (.int ((((x.toUInt32 >>> ((8 : Int32) &&& 31).toUInt32).toInt32) &&& (255 : Int32)).toUInt32.toUInt16.toUInt32.toInt32)), .val (.int ((((x.toUInt32 >>> ((16 : Int32) &&& 31).toUInt32).toInt32) &&& (255 : Int32)).toUInt32.toUInt16.toUInt32.toInt32)), .val (.ref b10)] [])) (fun t_ k_ => XS.goto X18.here hx rfl (pc0 := 68) (pc' := 124) rfl (hb hby own_d_method_3_68) (by decide) (by decide) k_) ?_
      refine own_go (T18.setTop (mkF m 126 #[.val (.int x), .val (.int y), .val (.int ((x &&& (255 : Int32)).toUInt32.toUInt16.toUInt32.toInt32)), .val (.int ((((x.toUInt32 >>> ((8 : Int32) &&& 31).toUInt32).toInt32) &&& (255 : Int32)).toUInt32.toUInt16.toUInt32.toInt32)), .val (.int ((((x.toUInt32 >>> ((16 : Int32) &&& 31).toUInt32).toInt32) &&& (255 : Int32)).toUInt32.toUInt16.toUInt32.toInt32)), .val (.ref b10)] [(.ref b10)])) (fun t_ k_ => XS.aload X18.here hx rfl (hb hby own_d_method_3_124) rfl rfl k_) ?_
      obtain ⟨fs, hr, hrun, hended, hRW⟩ := X18.leaveW hS (by rw [show T18.heap = T18.heap from rfl]; exact (Nat.le_trans (Nat.le_trans (Nat.le_trans (Nat.le_trans hk E10.1) E11.1) (Keep.of_wr W12).1) K18q.1)) (v := some (.ref b10)) (fun h => by rw [Bd.returns] at h; cases h)
      refine ⟨_, _, Jvm.RoadKit.retOut X18 hx Bd.returns rfl (Or.inr (Or.inr (Or.inr (Or.inr ⟨rfl, rfl, rfl⟩)))) (hb hby own_d_method_3_126) hr, hrun, hended, _, _, rfl, ?_, (by rw [hh]; show CHr Z consts_1 s.vm h0 T18.vm T18.heap; rw [show T18.heap = T18.heap from rfl]; exact R18.trans (CHv.at X18 hZ hEW R18.1)), hRW.1, hRW.2.1, hRW.2.2.1, hRW.2.2.2.mono (by decide) (by decide)⟩
      show Q_dw Z x y a_OUT a__VALUES a_INP a_TAKE_COMPLETE a_OUT_text a_INP_text a_TAKE_COMPLETE_text a_OUT_text_value a_INP_text_value a_TAKE_COMPLETE_text_value a_EM k__VALUES k_OUT_text_value k_INP_text_value k_TAKE_COMPLETE_text_value cs0 h0 _ T18.heap _
      rw [show T18.heap = T18.heap from rfl]
      exact ⟨_, _, _, ([(nar .char ((x &&& (255 : Int32)).toUInt32.toUInt16.toUInt32.toInt32))] : List Int32), rfl, N18, hp13, Nat.le_of_ble_eq_true rfl, KK18, X18q, V18q, C18q, A18q⟩
    ·
      refine own_go (s₁.setTop (mkF m 71 #[.val (.int x), .val (.int y), .val (.int ((x &&& (255 : Int32)).toUInt32.toUInt16.toUInt32.toInt32)), .val (.int ((((x.toUInt32 >>> ((8 : Int32) &&& 31).toUInt32).toInt32) &&& (255 : Int32)).toUInt32.toUInt16.toUInt32.toInt32)), .val (.int ((((x.toUInt32 >>> ((16 : Int32) &&& 31).toUInt32).toInt32) &&& (255 : Int32)).toUInt32.toUInt16.toUInt32.toInt32)), .unset] [])) (fun t_ k_ => XS.icmpYes X0.here hx rfl (pc0 := 49) (pc' := 71) rfl (hb hby own_d_method_3_49) rfl (feq hc49_9).2 (by decide) (by decide) k_) ?_
      refine own_go (s₁.setTop (mkF m 72 #[.val (.int x), .val (.int y), .val (.int ((x &&& (255 : Int32)).toUInt32.toUInt16.toUInt32.toInt32)), .val (.int ((((x.toUInt32 >>> ((8 : Int32) &&& 31).toUInt32).toInt32) &&& (255 : Int32)).toUInt32.toUInt16.toUInt32.toInt32)), .val (.int ((((x.toUInt32 >>> ((16 : Int32) &&& 31).toUInt32).toInt32) &&& (255 : Int32)).toUInt32.toUInt16.toUInt32.toInt32)), .unset] [(.int y)])) (fun t_ k_ => XS.iloadN X0.here hx rfl (hb hby own_d_method_3_71) rfl k_) ?_
      refine own_go (s₁.setTop (mkF m 73 #[.val (.int x), .val (.int y), .val (.int ((x &&& (255 : Int32)).toUInt32.toUInt16.toUInt32.toInt32)), .val (.int ((((x.toUInt32 >>> ((8 : Int32) &&& 31).toUInt32).toInt32) &&& (255 : Int32)).toUInt32.toUInt16.toUInt32.toInt32)), .val (.int ((((x.toUInt32 >>> ((16 : Int32) &&& 31).toUInt32).toInt32) &&& (255 : Int32)).toUInt32.toUInt16.toUInt32.toInt32)), .unset] [(.int (2 : Int32)), (.int y)])) (fun t_ k_ => XS.iconst X0.here hx rfl (hb hby own_d_method_3_72) k_) ?_
      by_cases hc73_20 : y = (2 : Int32)
      ·
        refine own_go (s₁.setTop (mkF m 76 #[.val (.int x), .val (.int y), .val (.int ((x &&& (255 : Int32)).toUInt32.toUInt16.toUInt32.toInt32)), .val (.int ((((x.toUInt32 >>> ((8 : Int32) &&& 31).toUInt32).toInt32) &&& (255 : Int32)).toUInt32.toUInt16.toUInt32.toInt32)), .val (.int ((((x.toUInt32 >>> ((16 : Int32) &&& 31).toUInt32).toInt32) &&& (255 : Int32)).toUInt32.toUInt16.toUInt32.toInt32)), .unset] [])) (fun t_ k_ => XS.icmpNo X0.here hx rfl (hb hby own_d_method_3_73) rfl (teq hc73_20).2 k_) ?_
        obtain ⟨T21, h21, X21, e21, E21, A21, D21, U21, st21⟩ := newO X0 hx hZ hown (hw _ (List.mem_of_getElem? (i := 83) rfl)) (hw _ (List.mem_of_getElem? (i := 3) rfl)) (hw _ (List.mem_of_getElem? (i := 2) rfl)) e0 (g := (mkF m 76 #[.val (.int x), .val (.int y), .val (.int ((x &&& (255 : Int32)).toUInt32.toUInt16.toUInt32.toInt32)), .val (.int ((((x.toUInt32 >>> ((8 : Int32) &&& 31).toUInt32).toInt32) &&& (255 : Int32)).toUInt32.toUInt16.toUInt32.toInt32)), .val (.int ((((x.toUInt32 >>> ((16 : Int32) &&& 31).toUInt32).toInt32) &&& (255 : Int32)).toUInt32.toUInt16.toUInt32.toInt32)), .unset] [])) rfl (hb hby own_d_method_3_76) (by decide) (by decide)
        obtain ⟨b21, g21⟩ : ∃ z, z = h0.size := ⟨_, rfl⟩
        rw [← g21] at A21 D21 U21 st21
        have ge_b21 : Z.heap.size ≤ b21 := Nat.le_trans O.1 (Nat.le_of_eq g21.symm)
        have sz_b21 : h0.size ≤ b21 := Nat.le_trans (Keep.refl h0 []).1 (Nat.le_of_eq g21.symm)
        have R21 := R0.trans (CHr.ext E21 R0.1)
        have Sf21 := Safe.ext (x := b21) E21 R0.1 (Safe.new (Nat.le_of_eq g21.symm))
        have K21 : Keep h0 h21 [] := (Keep.refl h0 []).ext E21
        have O21 := own_ext O E21
        have Fvalue_21 : Fld Z h21 b21 "java/lang/String" "value" "[B" .null := D21 (Or.inr (hw _ (List.mem_of_getElem? (i := 5) rfl))) (ty := (.array .byte)) (by decide)
        have Fcoder_21 : Fld Z h21 b21 "java/lang/String" "coder" "B" (.int (0 : Int32)) := D21 (Or.inr (hw _ (List.mem_of_getElem? (i := 6) rfl))) (ty := .byte) (by decide)
        refine own_go (T21.setTop (mkF m 79 #[.val (.int x), .val (.int y), .val (.int ((x &&& (255 : Int32)).toUInt32.toUInt16.toUInt32.toInt32)), .val (.int ((((x.toUInt32 >>> ((8 : Int32) &&& 31).toUInt32).toInt32) &&& (255 : Int32)).toUInt32.toUInt16.toUInt32.toInt32)), .val (.int ((((x.toUInt32 >>> ((16 : Int32) &&& 31).toUInt32).toInt32) &&& (255 : Int32)).toUInt32.toUInt16.toUInt32.toInt32)), .unset] [(.ref b21)])) (fun t_ k_ => st21 _ k_) ?_
        refine own_go (T21.setTop (mkF m 80 #[.val (.int x), .val (.int y), .val (.int ((x &&& (255 : Int32)).toUInt32.toUInt16.toUInt32.toInt32)), .val (.int ((((x.toUInt32 >>> ((8 : Int32) &&& 31).toUInt32).toInt32) &&& (255 : Int32)).toUInt32.toUInt16.toUInt32.toInt32)), .val (.int ((((x.toUInt32 >>> ((16 : Int32) &&& 31).toUInt32).toInt32) &&& (255 : Int32)).toUInt32.toUInt16.toUInt32.toInt32)), .unset] [(.ref b21), (.ref b21)])) (fun t_ k_ => XS.dup X21.here hx rfl (hb hby own_d_method_3_79) rfl rfl k_) ?_
        refine own_go (T21.setTop (mkF m 81 #[.val (.int x), .val (.int y), .val (.int ((x &&& (255 : Int32)).toUInt32.toUInt16.toUInt32.toInt32)), .val (.int ((((x.toUInt32 >>> ((8 : Int32) &&& 31).toUInt32).toInt32) &&& (255 : Int32)).toUInt32.toUInt16.toUInt32.toInt32)), .val (.int ((((x.toUInt32 >>> ((16 : Int32) &&& 31).toUInt32).toInt32) &&& (255 : Int32)).toUInt32.toUInt16.toUInt32.toInt32)), .unset] [(.int (2 : Int32)), (.ref b21), (.ref b21)])) (fun t_ k_ => XS.iconst X21.here hx rfl (hb hby own_d_method_3_80) k_) ?_
        obtain ⟨T22, h22, k22, X22, e22, E22, A22, st22⟩ := newP X21 hx hZ (hw _ (List.mem_of_getElem? (i := 82) rfl)) e21 (g := (mkF m 81 #[.val (.int x), .val (.int y), .val (.int ((x &&& (255 : Int32)).toUInt32.toUInt16.toUInt32.toInt32)), .val (.int ((((x.toUInt32 >>> ((8 : Int32) &&& 31).toUInt32).toInt32) &&& (255 : Int32)).toUInt32.toUInt16.toUInt32.toInt32)), .val (.int ((((x.toUInt32 >>> ((16 : Int32) &&& 31).toUInt32).toInt32) &&& (255 : Int32)).toUInt32.toUInt16.toUInt32.toInt32)), .unset] [(.int (2 : Int32)), (.ref b21), (.ref b21)])) rfl (hb hby own_d_method_3_81) rfl (by decide) (cap := 2) (by decide) (by decide) (by decide) (by decide)
        obtain ⟨b22, g22⟩ : ∃ z, z = h21.size := ⟨_, rfl⟩
        rw [← g22] at A22 st22
        have ge_b22 : Z.heap.size ≤ b22 := Nat.le_trans O21.1 (Nat.le_of_eq g22.symm)
        have sz_b22 : h0.size ≤ b22 := Nat.le_trans K21.1 (Nat.le_of_eq g22.symm)
        have R22 := R21.trans (CHr.ext E22 R21.1)
        have Sf22 := Safe.ext (x := b22) E22 R21.1 (Safe.new (Nat.le_of_eq g22.symm))
        have K22 : Keep h0 h22 [] := K21.ext E22
        have O22 := own_ext O21 E22
        have V22 : Arv Z h22 b22 k22 .char (2 : Int32) [(.int (0 : Int32)), (.int (0 : Int32))] (.int (0 : Int32)) := (Arv.new A22 (by decide)).pad (pad_rep [] (.int (0 : Int32)) 2)
        refine own_go (T22.setTop (mkF m 83 #[.val (.int x), .val (.int y), .val (.int ((x &&& (255 : Int32)).toUInt32.toUInt16.toUInt32.toInt32)), .val (.int ((((x.toUInt32 >>> ((8 : Int32) &&& 31).toUInt32).toInt32) &&& (255 : Int32)).toUInt32.toUInt16.toUInt32.toInt32)), .val (.int ((((x.toUInt32 >>> ((16 : Int32) &&& 31).toUInt32).toInt32) &&& (255 : Int32)).toUInt32.toUInt16.toUInt32.toInt32)), .unset] [(.ref b22), (.ref b21), (.ref b21)])) (fun t_ k_ => st22 _ k_) ?_
        refine own_go (T22.setTop (mkF m 84 #[.val (.int x), .val (.int y), .val (.int ((x &&& (255 : Int32)).toUInt32.toUInt16.toUInt32.toInt32)), .val (.int ((((x.toUInt32 >>> ((8 : Int32) &&& 31).toUInt32).toInt32) &&& (255 : Int32)).toUInt32.toUInt16.toUInt32.toInt32)), .val (.int ((((x.toUInt32 >>> ((16 : Int32) &&& 31).toUInt32).toInt32) &&& (255 : Int32)).toUInt32.toUInt16.toUInt32.toInt32)), .unset] [(.ref b22), (.ref b22), (.ref b21), (.ref b21)])) (fun t_ k_ => XS.dup X22.here hx rfl (hb hby own_d_method_3_83) rfl rfl k_) ?_
        refine own_go (T22.setTop (mkF m 85 #[.val (.int x), .val (.int y), .val (.int ((x &&& (255 : Int32)).toUInt32.toUInt16.toUInt32.toInt32)), .val (.int ((((x.toUInt32 >>> ((8 : Int32) &&& 31).toUInt32).toInt32) &&& (255 : Int32)).toUInt32.toUInt16.toUInt32.toInt32)), .val (.int ((((x.toUInt32 >>> ((16 : Int32) &&& 31).toUInt32).toInt32) &&& (255 : Int32)).toUInt32.toUInt16.toUInt32.toInt32)), .unset] [(.int (0 : Int32)), (.ref b22), (.ref b22), (.ref b21), (.ref b21)])) (fun t_ k_ => XS.iconst X22.here hx rfl (hb hby own_d_method_3_84) k_) ?_
        refine own_go (T22.setTop (mkF m 86 #[.val (.int x), .val (.int y), .val (.int ((x &&& (255 : Int32)).toUInt32.toUInt16.toUInt32.toInt32)), .val (.int ((((x.toUInt32 >>> ((8 : Int32) &&& 31).toUInt32).toInt32) &&& (255 : Int32)).toUInt32.toUInt16.toUInt32.toInt32)), .val (.int ((((x.toUInt32 >>> ((16 : Int32) &&& 31).toUInt32).toInt32) &&& (255 : Int32)).toUInt32.toUInt16.toUInt32.toInt32)), .unset] [(.int ((x &&& (255 : Int32)).toUInt32.toUInt16.toUInt32.toInt32)), (.int (0 : Int32)), (.ref b22), (.ref b22), (.ref b21), (.ref b21)])) (fun t_ k_ => XS.iloadN X22.here hx rfl (hb hby own_d_method_3_85) rfl k_) ?_
        obtain ⟨cl23, Ar23, q23, Sz23, Nz23, Hz23, Gz23⟩ := id (V22)
        have hin23 : ¬ ((0 : Int32) < 0 ∨ cl23.slots.size ≤ ((0 : Int32)).toNatClampNeg) := inb_of Sz23 ⟨by decide, by decide⟩
        obtain ⟨T23, h23, X23, e23, W23, st23⟩ := stC X22 hx hZ e22 Ar23 (j := (0 : Int32)) hin23  (g := (mkF m 86 #[.val (.int x), .val (.int y), .val (.int ((x &&& (255 : Int32)).toUInt32.toUInt16.toUInt32.toInt32)), .val (.int ((((x.toUInt32 >>> ((8 : Int32) &&& 31).toUInt32).toInt32) &&& (255 : Int32)).toUInt32.toUInt16.toUInt32.toInt32)), .val (.int ((((x.toUInt32 >>> ((16 : Int32) &&& 31).toUInt32).toInt32) &&& (255 : Int32)).toUInt32.toUInt16.toUInt32.toInt32)), .unset] [(.int ((x &&& (255 : Int32)).toUInt32.toUInt16.toUInt32.toInt32)), (.int (0 : Int32)), (.ref b22), (.ref b22), (.ref b21), (.ref b21)])) rfl rfl (hb hby own_d_method_3_86)
        have R23 := R22.trans (CHr.wr W23 Sf22 R22.1)
        have V23 : Arv Z h23 b22 k22 .char (2 : Int32) [(.int (nar .char ((x &&& (255 : Int32)).toUInt32.toUInt16.toUInt32.toInt32))), (.int (0 : Int32))] (.int (0 : Int32)) := Arv.set Ar23 q23 Sz23 Nz23 Hz23 Gz23 (fits_nar_char _) W23 0 rfl (Nat.le_of_ble_eq_true rfl)
        have K23 : Keep h0 h23 [] := K22.wr W23 (Or.inr sz_b22)
        have N23 := Fr.snoc X23 N0 ge_b22
        have O23 := own_extW O22 W23 ge_b22
        refine own_go (T23.setTop (mkF m 87 #[.val (.int x), .val (.int y), .val (.int ((x &&& (255 : Int32)).toUInt32.toUInt16.toUInt32.toInt32)), .val (.int ((((x.toUInt32 >>> ((8 : Int32) &&& 31).toUInt32).toInt32) &&& (255 : Int32)).toUInt32.toUInt16.toUInt32.toInt32)), .val (.int ((((x.toUInt32 >>> ((16 : Int32) &&& 31).toUInt32).toInt32) &&& (255 : Int32)).toUInt32.toUInt16.toUInt32.toInt32)), .unset] [(.ref b22), (.ref b21), (.ref b21)])) (fun t_ k_ => st23 _ k_) ?_
        refine own_go (T23.setTop (mkF m 88 #[.val (.int x), .val (.int y), .val (.int ((x &&& (255 : Int32)).toUInt32.toUInt16.toUInt32.toInt32)), .val (.int ((((x.toUInt32 >>> ((8 : Int32) &&& 31).toUInt32).toInt32) &&& (255 : Int32)).toUInt32.toUInt16.toUInt32.toInt32)), .val (.int ((((x.toUInt32 >>> ((16 : Int32) &&& 31).toUInt32).toInt32) &&& (255 : Int32)).toUInt32.toUInt16.toUInt32.toInt32)), .unset] [(.ref b22), (.ref b22), (.ref b21), (.ref b21)])) (fun t_ k_ => XS.dup X23.here hx rfl (hb hby own_d_method_3_87) rfl rfl k_) ?_
        refine own_go (T23.setTop (mkF m 89 #[.val (.int x), .val (.int y), .val (.int ((x &&& (255 : Int32)).toUInt32.toUInt16.toUInt32.toInt32)), .val (.int ((((x.toUInt32 >>> ((8 : Int32) &&& 31).toUInt32).toInt32) &&& (255 : Int32)).toUInt32.toUInt16.toUInt32.toInt32)), .val (.int ((((x.toUInt32 >>> ((16 : Int32) &&& 31).toUInt32).toInt32) &&& (255 : Int32)).toUInt32.toUInt16.toUInt32.toInt32)), .unset] [(.int (1 : Int32)), (.ref b22), (.ref b22), (.ref b21), (.ref b21)])) (fun t_ k_ => XS.iconst X23.here hx rfl (hb hby own_d_method_3_88) k_) ?_
        refine own_go (T23.setTop (mkF m 90 #[.val (.int x), .val (.int y), .val (.int ((x &&& (255 : Int32)).toUInt32.toUInt16.toUInt32.toInt32)), .val (.int ((((x.toUInt32 >>> ((8 : Int32) &&& 31).toUInt32).toInt32) &&& (255 : Int32)).toUInt32.toUInt16.toUInt32.toInt32)), .val (.int ((((x.toUInt32 >>> ((16 : Int32) &&& 31).toUInt32).toInt32) &&& (255 : Int32)).toUInt32.toUInt16.toUInt32.toInt32)), .unset] [(.int ((((x.toUInt32 >>> ((8 : Int32) &&& 31).toUInt32).toInt32) &&& (255 : Int32)).toUInt32.toUInt16.toUInt32.toInt32)), (.int (1 : Int32)), (.ref b22), (.ref b22), (.ref b21), (.ref b21)])) (fun t_ k_ => XS.iloadN X23.here hx rfl (hb hby own_d_method_3_89) rfl k_) ?_
        obtain ⟨cl24, Ar24, q24, Sz24, Nz24, Hz24, Gz24⟩ := id (V23)
        have hin24 : ¬ ((1 : Int32) < 0 ∨ cl24.slots.size ≤ ((1 : Int32)).toNatClampNeg) := inb_of Sz24 ⟨by decide, by decide⟩
        obtain ⟨T24, h24, X24, e24, W24, st24⟩ := stC X23 hx hZ e23 Ar24 (j := (1 : Int32)) hin24  (g := (mkF m 90 #[.val (.int x), .val (.int y), .val (.int ((x &&& (255 : Int32)).toUInt32.toUInt16.toUInt32.toInt32)), .val (.int ((((x.toUInt32 >>> ((8 : Int32) &&& 31).toUInt32).toInt32) &&& (255 : Int32)).toUInt32.toUInt16.toUInt32.toInt32)), .val (.int ((((x.toUInt32 >>> ((16 : Int32) &&& 31).toUInt32).toInt32) &&& (255 : Int32)).toUInt32.toUInt16.toUInt32.toInt32)), .unset] [(.int ((((x.toUInt32 >>> ((8 : Int32) &&& 31).toUInt32).toInt32) &&& (255 : Int32)).toUInt32.toUInt16.toUInt32.toInt32)), (.int (1 : Int32)), (.ref b22), (.ref b22), (.ref b21), (.ref b21)])) rfl rfl (hb hby own_d_method_3_90)
        have Fz25 := (Safe.wr W23 Sf22 R22.1 Sf22)
        have R24 := R23.trans (CHr.wr W24 Fz25 R23.1)
        have V24 : Arv Z h24 b22 k22 .char (2 : Int32) [(.int (nar .char ((x &&& (255 : Int32)).toUInt32.toUInt16.toUInt32.toInt32))), (.int (nar .char ((((x.toUInt32 >>> ((8 : Int32) &&& 31).toUInt32).toInt32) &&& (255 : Int32)).toUInt32.toUInt16.toUInt32.toInt32)))] (.int (0 : Int32)) := Arv.set Ar24 q24 Sz24 Nz24 Hz24 Gz24 (fits_nar_char _) W24 1 rfl (Nat.le_of_ble_eq_true rfl)
        have K24 : Keep h0 h24 [] := K23.wr W24 (Or.inr sz_b22)
        have N24 := Fr.snoc X24 N23 ge_b22
        have O24 := own_extW O23 W24 ge_b22
        refine own_go (T24.setTop (mkF m 91 #[.val (.int x), .val (.int y), .val (.int ((x &&& (255 : Int32)).toUInt32.toUInt16.toUInt32.toInt32)), .val (.int ((((x.toUInt32 >>> ((8 : Int32) &&& 31).toUInt32).toInt32) &&& (255 : Int32)).toUInt32.toUInt16.toUInt32.toInt32)), .val (.int ((((x.toUInt32 >>> ((16 : Int32) &&& 31).toUInt32).toInt32) &&& (255 : Int32)).toUInt32.toUInt16.toUInt32.toInt32)), .unset] [(.ref b22), (.ref b21), (.ref b21)])) (fun t_ k_ => st24 _ k_) ?_
        have hp26 : ∀ c ∈ ([(nar .char ((x &&& (255 : Int32)).toUInt32.toUInt16.toUInt32.toInt32)), (nar .char ((((x.toUInt32 >>> ((8 : Int32) &&& 31).toUInt32).toInt32) &&& (255 : Int32)).toUInt32.toUInt16.toUInt32.toInt32))] : List Int32), ¬ c < 0 ∧ ¬ (255 : Int32) < c := (own_allS (own_c255 x) (own_allS (own_c255 ((x.toUInt32 >>> ((8 : Int32) &&& 31).toUInt32).toInt32)) own_all0))
        have Fz27 := (((A21.ext E22).wr W23).wr W24)
        have Nz28 : b21 ≠ b22 := (Nat.ne_of_lt (Nat.lt_of_lt_of_le A21.lt (Nat.le_of_eq g22.symm)))
        have Fz29 := (((Fvalue_21.ext E22).other W23 (Or.inl Nz28)).other W24 (Or.inl Nz28))
        have Fz30 := (((Fcoder_21.ext E22).other W23 (Or.inl Nz28)).other W24 (Or.inl Nz28))
        obtain ⟨_, _, ⟨T31, Lu31, ku31, nu31⟩, -, X31, ⟨Lc31, hQ31, lu31, yu31, zu31⟩, st31⟩ := X24.specialBack hx (y := (⟨"java/lang/String", "<init>", "([C)V"⟩ : MethodName)) rfl hown (mvT hZ (hw _ (List.mem_of_getElem? (i := 84) rfl))) (mvT hZ (hw _ (List.mem_of_getElem? (i := 85) rfl))) (mvT hZ (hw _ (List.mem_of_getElem? (i := 86) rfl))) (by decide) (StrChars.Road.backV (W := 1) hZ (fun d hd => hw d (own_words d hd)) (kI := 4) (hw _ (List.mem_of_getElem? (i := 3) rfl)) (cs := ([(nar .char ((x &&& (255 : Int32)).toUInt32.toUInt16.toUInt32.toInt32)), (nar .char ((((x.toUInt32 >>> ((8 : Int32) &&& 31).toUInt32).toInt32) &&& (255 : Int32)).toUInt32.toUInt16.toUInt32.toInt32))] : List Int32)) (bs := (([(nar .char ((x &&& (255 : Int32)).toUInt32.toUInt16.toUInt32.toInt32)), (nar .char ((((x.toUInt32 >>> ((8 : Int32) &&& 31).toUInt32).toInt32) &&& (255 : Int32)).toUInt32.toUInt16.toUInt32.toInt32))] : List Int32)).map (fun c => c.toInt8.toInt32)) (n := 2) (n0 := Z.heap.size) ge_b21 (O24.1) Fz27 Fz29 Fz30 V24 (S_CS.ext O24) n_CS rfl rfl (by decide) (by decide) hp26 rfl (by decide) (by decide)) (g := (mkF m 91 #[.val (.int x), .val (.int y), .val (.int ((x &&& (255 : Int32)).toUInt32.toUInt16.toUInt32.toInt32)), .val (.int ((((x.toUInt32 >>> ((8 : Int32) &&& 31).toUInt32).toInt32) &&& (255 : Int32)).toUInt32.toUInt16.toUInt32.toInt32)), .val (.int ((((x.toUInt32 >>> ((16 : Int32) &&& 31).toUInt32).toInt32) &&& (255 : Int32)).toUInt32.toUInt16.toUInt32.toInt32)), .unset] [(.ref b22), (.ref b21), (.ref b21)])) rfl (by rw [hml]; rfl) (Steps.refl _) (a := b21) (argsL := [(.ref b22)]) (rest := [(.ref b21)]) (lenOf own_pd7 rfl) rfl (by show 2 * 0 + _ ≤ _; exact Nat.le_of_eq rfl) (hb hby own_d_method_3_91) (fun _ _ => ⟨rfl, e24, (by decide : 2 + 1 ≤ _), (by decide : 6 + 2 ≤ _)⟩)
        dsimp only [Pt.U, Pt.locs, Pt.cells, Pt.slots] at X31 lu31 yu31 zu31 st31 hQ31
        subst lu31 yu31 zu31
        obtain ⟨rfl, N31q, K31q, X31q, C31q, t31, kb31, u1_31, u2_31, u3_31, V31q, A31q⟩ := hQ31
        have N31 := Fr.app N24 N31q
        have O31 := own_extK O24 K31q (allS ge_b21 all0)
        have KK31 : Keep h0 T31.heap [] := K24.trans K31q (allS (Or.inr sz_b21) all0)
        have Fz32 := (Safe.wr W24 Fz25 R23.1 (Safe.wr W23 Sf22 R22.1 (Safe.ext E22 R21.1 Sf21)))
        have R31 := R24.trans (CHr.keep K31q (allS Fz32 all0) R24.1)
        refine own_go (T31.setTop (mkF m 94 #[.val (.int x), .val (.int y), .val (.int ((x &&& (255 : Int32)).toUInt32.toUInt16.toUInt32.toInt32)), .val (.int ((((x.toUInt32 >>> ((8 : Int32) &&& 31).toUInt32).toInt32) &&& (255 : Int32)).toUInt32.toUInt16.toUInt32.toInt32)), .val (.int ((((x.toUInt32 >>> ((16 : Int32) &&& 31).toUInt32).toInt32) &&& (255 : Int32)).toUInt32.toUInt16.toUInt32.toInt32)), .unset] [(.ref b21)])) (fun t_ k_ => st31.trans k_) ?_
        refine own_go (T31.setTop (mkF m 96 #[.val (.int x), .val (.int y), .val (.int ((x &&& (255 : Int32)).toUInt32.toUInt16.toUInt32.toInt32)), .val (.int ((((x.toUInt32 >>> ((8 : Int32) &&& 31).toUInt32).toInt32) &&& (255 : Int32)).toUInt32.toUInt16.toUInt32.toInt32)), .val (.int ((((x.toUInt32 >>> ((16 : Int32) &&& 31).toUInt32).toInt32) &&& (255 : Int32)).toUInt32.toUInt16.toUInt32.toInt32)), .val (.ref b21)] [])) (fun t_ k_ => XS.astore X31.here hx rfl (hb hby own_d_method_3_94) rfl rfl (l' := #[.val (.int x), .val (.int y), .val (.int ((x &&& (255 : Int32)).toUInt32.toUInt16.toUInt32.toInt32)), .val (.int ((((x.toUInt32 >>> ((8 : Int32) &&& 31).toUInt32).toInt32) &&& (255 : Int32)).toUInt32.toUInt16.toUInt32.toInt32)), .val (.int ((((x.toUInt32 >>> ((16 : Int32) &&& 31).toUInt32).toInt32) &&& (255 : Int32)).toUInt32.toUInt16.toUInt32.toInt32)), .val (.ref b21)]) rfl k_) ?_
        refine own_go (T31.setTop (mkF m 124 #[.val (.int x), .val (.int y), .val (.int ((x &&& (255 : Int32)).toUInt32.toUInt16.toUInt32.toInt32)), .val (.int ((((x.toUInt32 >>> ((8 : Int32) &&& 31).toUInt32).toInt32) &&& (255 : Int32)).toUInt32.toUInt16.toUInt32.toInt32)), .val (.int ((((x.toUInt32 >>> ((16 : Int32) &&& 31).toUInt32).toInt32) &&& (255 : Int32)).toUInt32.toUInt16.toUInt32.toInt32)), .val (.ref b21)] [])) (fun t_ k_ => XS.goto X31.here hx rfl (pc0 := 96) (pc' := 124) rfl (hb hby own_d_method_3_96) (by decide) (by decide) k_) ?_
        refine own_go (T31.setTop (mkF m 126 #[.val (.int x), .val (.int y), .val (.int ((x &&& (255 : Int32)).toUInt32.toUInt16.toUInt32.toInt32)), .val (.int ((((x.toUInt32 >>> ((8 : Int32) &&& 31).toUInt32).toInt32) &&& (255 : Int32)).toUInt32.toUInt16.toUInt32.toInt32)), .val (.int ((((x.toUInt32 >>> ((16 : Int32) &&& 31).toUInt32).toInt32) &&& (255 : Int32)).toUInt32.toUInt16.toUInt32.toInt32)), .val (.ref b21)] [(.ref b21)])) (fun t_ k_ => XS.aload X31.here hx rfl (hb hby own_d_method_3_124) rfl rfl k_) ?_
        obtain ⟨fs, hr, hrun, hended, hRW⟩ := X31.leaveW hS (by rw [show T31.heap = T31.heap from rfl]; exact (Nat.le_trans (Nat.le_trans (Nat.le_trans (Nat.le_trans (Nat.le_trans hk E21.1) E22.1) (Keep.of_wr W23).1) (Keep.of_wr W24).1) K31q.1)) (v := some (.ref b21)) (fun h => by rw [Bd.returns] at h; cases h)
        refine ⟨_, _, Jvm.RoadKit.retOut X31 hx Bd.returns rfl (Or.inr (Or.inr (Or.inr (Or.inr ⟨rfl, rfl, rfl⟩)))) (hb hby own_d_method_3_126) hr, hrun, hended, _, _, rfl, ?_, (by rw [hh]; show CHr Z consts_1 s.vm h0 T31.vm T31.heap; rw [show T31.heap = T31.heap from rfl]; exact R31.trans (CHv.at X31 hZ hEW R31.1)), hRW.1, hRW.2.1, hRW.2.2.1, hRW.2.2.2.mono (by decide) (by decide)⟩
        show Q_dw Z x y a_OUT a__VALUES a_INP a_TAKE_COMPLETE a_OUT_text a_INP_text a_TAKE_COMPLETE_text a_OUT_text_value a_INP_text_value a_TAKE_COMPLETE_text_value a_EM k__VALUES k_OUT_text_value k_INP_text_value k_TAKE_COMPLETE_text_value cs0 h0 _ T31.heap _
        rw [show T31.heap = T31.heap from rfl]
        exact ⟨_, _, _, ([(nar .char ((x &&& (255 : Int32)).toUInt32.toUInt16.toUInt32.toInt32)), (nar .char ((((x.toUInt32 >>> ((8 : Int32) &&& 31).toUInt32).toInt32) &&& (255 : Int32)).toUInt32.toUInt16.toUInt32.toInt32))] : List Int32), rfl, N31, hp26, Nat.le_of_ble_eq_true rfl, KK31, X31q, V31q, C31q, A31q⟩
      ·
        refine own_go (s₁.setTop (mkF m 99 #[.val (.int x), .val (.int y), .val (.int ((x &&& (255 : Int32)).toUInt32.toUInt16.toUInt32.toInt32)), .val (.int ((((x.toUInt32 >>> ((8 : Int32) &&& 31).toUInt32).toInt32) &&& (255 : Int32)).toUInt32.toUInt16.toUInt32.toInt32)), .val (.int ((((x.toUInt32 >>> ((16 : Int32) &&& 31).toUInt32).toInt32) &&& (255 : Int32)).toUInt32.toUInt16.toUInt32.toInt32)), .unset] [])) (fun t_ k_ => XS.icmpYes X0.here hx rfl (pc0 := 73) (pc' := 99) rfl (hb hby own_d_method_3_73) rfl (feq hc73_20).2 (by decide) (by decide) k_) ?_
        obtain ⟨T33, h33, X33, e33, E33, A33, D33, U33, st33⟩ := newO X0 hx hZ hown (hw _ (List.mem_of_getElem? (i := 83) rfl)) (hw _ (List.mem_of_getElem? (i := 3) rfl)) (hw _ (List.mem_of_getElem? (i := 2) rfl)) e0 (g := (mkF m 99 #[.val (.int x), .val (.int y), .val (.int ((x &&& (255 : Int32)).toUInt32.toUInt16.toUInt32.toInt32)), .val (.int ((((x.toUInt32 >>> ((8 : Int32) &&& 31).toUInt32).toInt32) &&& (255 : Int32)).toUInt32.toUInt16.toUInt32.toInt32)), .val (.int ((((x.toUInt32 >>> ((16 : Int32) &&& 31).toUInt32).toInt32) &&& (255 : Int32)).toUInt32.toUInt16.toUInt32.toInt32)), .unset] [])) rfl (hb hby own_d_method_3_99) (by decide) (by decide)
        obtain ⟨b33, g33⟩ : ∃ z, z = h0.size := ⟨_, rfl⟩
        rw [← g33] at A33 D33 U33 st33
        have ge_b33 : Z.heap.size ≤ b33 := Nat.le_trans O.1 (Nat.le_of_eq g33.symm)
        have sz_b33 : h0.size ≤ b33 := Nat.le_trans (Keep.refl h0 []).1 (Nat.le_of_eq g33.symm)
        have R33 := R0.trans (CHr.ext E33 R0.1)
        have Sf33 := Safe.ext (x := b33) E33 R0.1 (Safe.new (Nat.le_of_eq g33.symm))
        have K33 : Keep h0 h33 [] := (Keep.refl h0 []).ext E33
        have O33 := own_ext O E33
        have Fvalue_33 : Fld Z h33 b33 "java/lang/String" "value" "[B" .null := D33 (Or.inr (hw _ (List.mem_of_getElem? (i := 5) rfl))) (ty := (.array .byte)) (by decide)
        have Fcoder_33 : Fld Z h33 b33 "java/lang/String" "coder" "B" (.int (0 : Int32)) := D33 (Or.inr (hw _ (List.mem_of_getElem? (i := 6) rfl))) (ty := .byte) (by decide)
        refine own_go (T33.setTop (mkF m 102 #[.val (.int x), .val (.int y), .val (.int ((x &&& (255 : Int32)).toUInt32.toUInt16.toUInt32.toInt32)), .val (.int ((((x.toUInt32 >>> ((8 : Int32) &&& 31).toUInt32).toInt32) &&& (255 : Int32)).toUInt32.toUInt16.toUInt32.toInt32)), .val (.int ((((x.toUInt32 >>> ((16 : Int32) &&& 31).toUInt32).toInt32) &&& (255 : Int32)).toUInt32.toUInt16.toUInt32.toInt32)), .unset] [(.ref b33)])) (fun t_ k_ => st33 _ k_) ?_
        refine own_go (T33.setTop (mkF m 103 #[.val (.int x), .val (.int y), .val (.int ((x &&& (255 : Int32)).toUInt32.toUInt16.toUInt32.toInt32)), .val (.int ((((x.toUInt32 >>> ((8 : Int32) &&& 31).toUInt32).toInt32) &&& (255 : Int32)).toUInt32.toUInt16.toUInt32.toInt32)), .val (.int ((((x.toUInt32 >>> ((16 : Int32) &&& 31).toUInt32).toInt32) &&& (255 : Int32)).toUInt32.toUInt16.toUInt32.toInt32)), .unset] [(.ref b33), (.ref b33)])) (fun t_ k_ => XS.dup X33.here hx rfl (hb hby own_d_method_3_102) rfl rfl k_) ?_
        refine own_go (T33.setTop (mkF m 104 #[.val (.int x), .val (.int y), .val (.int ((x &&& (255 : Int32)).toUInt32.toUInt16.toUInt32.toInt32)), .val (.int ((((x.toUInt32 >>> ((8 : Int32) &&& 31).toUInt32).toInt32) &&& (255 : Int32)).toUInt32.toUInt16.toUInt32.toInt32)), .val (.int ((((x.toUInt32 >>> ((16 : Int32) &&& 31).toUInt32).toInt32) &&& (255 : Int32)).toUInt32.toUInt16.toUInt32.toInt32)), .unset] [(.int (3 : Int32)), (.ref b33), (.ref b33)])) (fun t_ k_ => XS.iconst X33.here hx rfl (hb hby own_d_method_3_103) k_) ?_
        obtain ⟨T34, h34, k34, X34, e34, E34, A34, st34⟩ := newP X33 hx hZ (hw _ (List.mem_of_getElem? (i := 82) rfl)) e33 (g := (mkF m 104 #[.val (.int x), .val (.int y), .val (.int ((x &&& (255 : Int32)).toUInt32.toUInt16.toUInt32.toInt32)), .val (.int ((((x.toUInt32 >>> ((8 : Int32) &&& 31).toUInt32).toInt32) &&& (255 : Int32)).toUInt32.toUInt16.toUInt32.toInt32)), .val (.int ((((x.toUInt32 >>> ((16 : Int32) &&& 31).toUInt32).toInt32) &&& (255 : Int32)).toUInt32.toUInt16.toUInt32.toInt32)), .unset] [(.int (3 : Int32)), (.ref b33), (.ref b33)])) rfl (hb hby own_d_method_3_104) rfl (by decide) (cap := 3) (by decide) (by decide) (by decide) (by decide)
        obtain ⟨b34, g34⟩ : ∃ z, z = h33.size := ⟨_, rfl⟩
        rw [← g34] at A34 st34
        have ge_b34 : Z.heap.size ≤ b34 := Nat.le_trans O33.1 (Nat.le_of_eq g34.symm)
        have sz_b34 : h0.size ≤ b34 := Nat.le_trans K33.1 (Nat.le_of_eq g34.symm)
        have R34 := R33.trans (CHr.ext E34 R33.1)
        have Sf34 := Safe.ext (x := b34) E34 R33.1 (Safe.new (Nat.le_of_eq g34.symm))
        have K34 : Keep h0 h34 [] := K33.ext E34
        have O34 := own_ext O33 E34
        have V34 : Arv Z h34 b34 k34 .char (3 : Int32) [(.int (0 : Int32)), (.int (0 : Int32)), (.int (0 : Int32))] (.int (0 : Int32)) := (Arv.new A34 (by decide)).pad (pad_rep [] (.int (0 : Int32)) 3)
        refine own_go (T34.setTop (mkF m 106 #[.val (.int x), .val (.int y), .val (.int ((x &&& (255 : Int32)).toUInt32.toUInt16.toUInt32.toInt32)), .val (.int ((((x.toUInt32 >>> ((8 : Int32) &&& 31).toUInt32).toInt32) &&& (255 : Int32)).toUInt32.toUInt16.toUInt32.toInt32)), .val (.int ((((x.toUInt32 >>> ((16 : Int32) &&& 31).toUInt32).toInt32) &&& (255 : Int32)).toUInt32.toUInt16.toUInt32.toInt32)), .unset] [(.ref b34), (.ref b33), (.ref b33)])) (fun t_ k_ => st34 _ k_) ?_
        refine own_go (T34.setTop (mkF m 107 #[.val (.int x), .val (.int y), .val (.int ((x &&& (255 : Int32)).toUInt32.toUInt16.toUInt32.toInt32)), .val (.int ((((x.toUInt32 >>> ((8 : Int32) &&& 31).toUInt32).toInt32) &&& (255 : Int32)).toUInt32.toUInt16.toUInt32.toInt32)), .val (.int ((((x.toUInt32 >>> ((16 : Int32) &&& 31).toUInt32).toInt32) &&& (255 : Int32)).toUInt32.toUInt16.toUInt32.toInt32)), .unset] [(.ref b34), (.ref b34), (.ref b33), (.ref b33)])) (fun t_ k_ => XS.dup X34.here hx rfl (hb hby own_d_method_3_106) rfl rfl k_) ?_
        refine own_go (T34.setTop (mkF m 108 #[.val (.int x), .val (.int y), .val (.int ((x &&& (255 : Int32)).toUInt32.toUInt16.toUInt32.toInt32)), .val (.int ((((x.toUInt32 >>> ((8 : Int32) &&& 31).toUInt32).toInt32) &&& (255 : Int32)).toUInt32.toUInt16.toUInt32.toInt32)), .val (.int ((((x.toUInt32 >>> ((16 : Int32) &&& 31).toUInt32).toInt32) &&& (255 : Int32)).toUInt32.toUInt16.toUInt32.toInt32)), .unset] [(.int (0 : Int32)), (.ref b34), (.ref b34), (.ref b33), (.ref b33)])) (fun t_ k_ => XS.iconst X34.here hx rfl (hb hby own_d_method_3_107) k_) ?_
        refine own_go (T34.setTop (mkF m 109 #[.val (.int x), .val (.int y), .val (.int ((x &&& (255 : Int32)).toUInt32.toUInt16.toUInt32.toInt32)), .val (.int ((((x.toUInt32 >>> ((8 : Int32) &&& 31).toUInt32).toInt32) &&& (255 : Int32)).toUInt32.toUInt16.toUInt32.toInt32)), .val (.int ((((x.toUInt32 >>> ((16 : Int32) &&& 31).toUInt32).toInt32) &&& (255 : Int32)).toUInt32.toUInt16.toUInt32.toInt32)), .unset] [(.int ((x &&& (255 : Int32)).toUInt32.toUInt16.toUInt32.toInt32)), (.int (0 : Int32)), (.ref b34), (.ref b34), (.ref b33), (.ref b33)])) (fun t_ k_ => XS.iloadN X34.here hx rfl (hb hby own_d_method_3_108) rfl k_) ?_
        obtain ⟨cl35, Ar35, q35, Sz35, Nz35, Hz35, Gz35⟩ := id (V34)
        have hin35 : ¬ ((0 : Int32) < 0 ∨ cl35.slots.size ≤ ((0 : Int32)).toNatClampNeg) := inb_of Sz35 ⟨by decide, by decide⟩
        obtain ⟨T35, h35, X35, e35, W35, st35⟩ := stC X34 hx hZ e34 Ar35 (j := (0 : Int32)) hin35  (g := (mkF m 109 #[.val (.int x), .val (.int y), .val (.int ((x &&& (255 : Int32)).toUInt32.toUInt16.toUInt32.toInt32)), .val (.int ((((x.toUInt32 >>> ((8 : Int32) &&& 31).toUInt32).toInt32) &&& (255 : Int32)).toUInt32.toUInt16.toUInt32.toInt32)), .val (.int ((((x.toUInt32 >>> ((16 : Int32) &&& 31).toUInt32).toInt32) &&& (255 : Int32)).toUInt32.toUInt16.toUInt32.toInt32)), .unset] [(.int ((x &&& (255 : Int32)).toUInt32.toUInt16.toUInt32.toInt32)), (.int (0 : Int32)), (.ref b34), (.ref b34), (.ref b33), (.ref b33)])) rfl rfl (hb hby own_d_method_3_109)
        have R35 := R34.trans (CHr.wr W35 Sf34 R34.1)
        have V35 : Arv Z h35 b34 k34 .char (3 : Int32) [(.int (nar .char ((x &&& (255 : Int32)).toUInt32.toUInt16.toUInt32.toInt32))), (.int (0 : Int32)), (.int (0 : Int32))] (.int (0 : Int32)) := Arv.set Ar35 q35 Sz35 Nz35 Hz35 Gz35 (fits_nar_char _) W35 0 rfl (Nat.le_of_ble_eq_true rfl)
        have K35 : Keep h0 h35 [] := K34.wr W35 (Or.inr sz_b34)
        have N35 := Fr.snoc X35 N0 ge_b34
        have O35 := own_extW O34 W35 ge_b34
        refine own_go (T35.setTop (mkF m 110 #[.val (.int x), .val (.int y), .val (.int ((x &&& (255 : Int32)).toUInt32.toUInt16.toUInt32.toInt32)), .val (.int ((((x.toUInt32 >>> ((8 : Int32) &&& 31).toUInt32).toInt32) &&& (255 : Int32)).toUInt32.toUInt16.toUInt32.toInt32)), .val (.int ((((x.toUInt32 >>> ((16 : Int32) &&& 31).toUInt32).toInt32) &&& (255 : Int32)).toUInt32.toUInt16.toUInt32.toInt32)), .unset] [(.ref b34), (.ref b33), (.ref b33)])) (fun t_ k_ => st35 _ k_) ?_
        refine own_go (T35.setTop (mkF m 111 #[.val (.int x), .val (.int y), .val (.int ((x &&& (255 : Int32)).toUInt32.toUInt16.toUInt32.toInt32)), .val (.int ((((x.toUInt32 >>> ((8 : Int32) &&& 31).toUInt32).toInt32) &&& (255 : Int32)).toUInt32.toUInt16.toUInt32.toInt32)), .val (.int ((((x.toUInt32 >>> ((16 : Int32) &&& 31).toUInt32).toInt32) &&& (255 : Int32)).toUInt32.toUInt16.toUInt32.toInt32)), .unset] [(.ref b34), (.ref b34), (.ref b33), (.ref b33)])) (fun t_ k_ => XS.dup X35.here hx rfl (hb hby own_d_method_3_110) rfl rfl k_) ?_
        refine own_go (T35.setTop (mkF m 112 #[.val (.int x), .val (.int y), .val (.int ((x &&& (255 : Int32)).toUInt32.toUInt16.toUInt32.toInt32)), .val (.int ((((x.toUInt32 >>> ((8 : Int32) &&& 31).toUInt32).toInt32) &&& (255 : Int32)).toUInt32.toUInt16.toUInt32.toInt32)), .val (.int ((((x.toUInt32 >>> ((16 : Int32) &&& 31).toUInt32).toInt32) &&& (255 : Int32)).toUInt32.toUInt16.toUInt32.toInt32)), .unset] [(.int (1 : Int32)), (.ref b34), (.ref b34), (.ref b33), (.ref b33)])) (fun t_ k_ => XS.iconst X35.here hx rfl (hb hby own_d_method_3_111) k_) ?_
        refine own_go (T35.setTop (mkF m 113 #[.val (.int x), .val (.int y), .val (.int ((x &&& (255 : Int32)).toUInt32.toUInt16.toUInt32.toInt32)), .val (.int ((((x.toUInt32 >>> ((8 : Int32) &&& 31).toUInt32).toInt32) &&& (255 : Int32)).toUInt32.toUInt16.toUInt32.toInt32)), .val (.int ((((x.toUInt32 >>> ((16 : Int32) &&& 31).toUInt32).toInt32) &&& (255 : Int32)).toUInt32.toUInt16.toUInt32.toInt32)), .unset] [(.int ((((x.toUInt32 >>> ((8 : Int32) &&& 31).toUInt32).toInt32) &&& (255 : Int32)).toUInt32.toUInt16.toUInt32.toInt32)), (.int (1 : Int32)), (.ref b34), (.ref b34), (.ref b33), (.ref b33)])) (fun t_ k_ => XS.iloadN X35.here hx rfl (hb hby own_d_method_3_112) rfl k_) ?_
        obtain ⟨cl36, Ar36, q36, Sz36, Nz36, Hz36, Gz36⟩ := id (V35)
        have hin36 : ¬ ((1 : Int32) < 0 ∨ cl36.slots.size ≤ ((1 : Int32)).toNatClampNeg) := inb_of Sz36 ⟨by decide, by decide⟩
        obtain ⟨T36, h36, X36, e36, W36, st36⟩ := stC X35 hx hZ e35 Ar36 (j := (1 : Int32)) hin36  (g := (mkF m 113 #[.val (.int x), .val (.int y), .val (.int ((x &&& (255 : Int32)).toUInt32.toUInt16.toUInt32.toInt32)), .val (.int ((((x.toUInt32 >>> ((8 : Int32) &&& 31).toUInt32).toInt32) &&& (255 : Int32)).toUInt32.toUInt16.toUInt32.toInt32)), .val (.int ((((x.toUInt32 >>> ((16 : Int32) &&& 31).toUInt32).toInt32) &&& (255 : Int32)).toUInt32.toUInt16.toUInt32.toInt32)), .unset] [(.int ((((x.toUInt32 >>> ((8 : Int32) &&& 31).toUInt32).toInt32) &&& (255 : Int32)).toUInt32.toUInt16.toUInt32.toInt32)), (.int (1 : Int32)), (.ref b34), (.ref b34), (.ref b33), (.ref b33)])) rfl rfl (hb hby own_d_method_3_113)
        have Fz37 := (Safe.wr W35 Sf34 R34.1 Sf34)
        have R36 := R35.trans (CHr.wr W36 Fz37 R35.1)
        have V36 : Arv Z h36 b34 k34 .char (3 : Int32) [(.int (nar .char ((x &&& (255 : Int32)).toUInt32.toUInt16.toUInt32.toInt32))), (.int (nar .char ((((x.toUInt32 >>> ((8 : Int32) &&& 31).toUInt32).toInt32) &&& (255 : Int32)).toUInt32.toUInt16.toUInt32.toInt32))), (.int (0 : Int32))] (.int (0 : Int32)) := Arv.set Ar36 q36 Sz36 Nz36 Hz36 Gz36 (fits_nar_char _) W36 1 rfl (Nat.le_of_ble_eq_true rfl)
        have K36 : Keep h0 h36 [] := K35.wr W36 (Or.inr sz_b34)
        have N36 := Fr.snoc X36 N35 ge_b34
        have O36 := own_extW O35 W36 ge_b34
        refine own_go (T36.setTop (mkF m 114 #[.val (.int x), .val (.int y), .val (.int ((x &&& (255 : Int32)).toUInt32.toUInt16.toUInt32.toInt32)), .val (.int ((((x.toUInt32 >>> ((8 : Int32) &&& 31).toUInt32).toInt32) &&& (255 : Int32)).toUInt32.toUInt16.toUInt32.toInt32)), .val (.int ((((x.toUInt32 >>> ((16 : Int32) &&& 31).toUInt32).toInt32) &&& (255 : Int32)).toUInt32.toUInt16.toUInt32.toInt32)), .unset] [(.ref b34), (.ref b33), (.ref b33)])) (fun t_ k_ => st36 _ k_) ?_
        refine own_go (T36.setTop (mkF m 115 #[.val (.int x), .val (.int y), .val (.int ((x &&& (255 : Int32)).toUInt32.toUInt16.toUInt32.toInt32)), .val (.int ((((x.toUInt32 >>> ((8 : Int32) &&& 31).toUInt32).toInt32) &&& (255 : Int32)).toUInt32.toUInt16.toUInt32.toInt32)), .val (.int ((((x.toUInt32 >>> ((16 : Int32) &&& 31).toUInt32).toInt32) &&& (255 : Int32)).toUInt32.toUInt16.toUInt32.toInt32)), .unset] [(.ref b34), (.ref b34), (.ref b33), (.ref b33)])) (fun t_ k_ => XS.dup X36.here hx rfl (hb hby own_d_method_3_114) rfl rfl k_) ?_
        refine own_go (T36.setTop (mkF m 116 #[.val (.int x), .val (.int y), .val (.int ((x &&& (255 : Int32)).toUInt32.toUInt16.toUInt32.toInt32)), .val (.int ((((x.toUInt32 >>> ((8 : Int32) &&& 31).toUInt32).toInt32) &&& (255 : Int32)).toUInt32.toUInt16.toUInt32.toInt32)), .val (.int ((((x.toUInt32 >>> ((16 : Int32) &&& 31).toUInt32).toInt32) &&& (255 : Int32)).toUInt32.toUInt16.toUInt32.toInt32)), .unset] [(.int (2 : Int32)), (.ref b34), (.ref b34), (.ref b33), (.ref b33)])) (fun t_ k_ => XS.iconst X36.here hx rfl (hb hby own_d_method_3_115) k_) ?_
        refine own_go (T36.setTop (mkF m 118 #[.val (.int x), .val (.int y), .val (.int ((x &&& (255 : Int32)).toUInt32.toUInt16.toUInt32.toInt32)), .val (.int ((((x.toUInt32 >>> ((8 : Int32) &&& 31).toUInt32).toInt32) &&& (255 : Int32)).toUInt32.toUInt16.toUInt32.toInt32)), .val (.int ((((x.toUInt32 >>> ((16 : Int32) &&& 31).toUInt32).toInt32) &&& (255 : Int32)).toUInt32.toUInt16.toUInt32.toInt32)), .unset] [(.int ((((x.toUInt32 >>> ((16 : Int32) &&& 31).toUInt32).toInt32) &&& (255 : Int32)).toUInt32.toUInt16.toUInt32.toInt32)), (.int (2 : Int32)), (.ref b34), (.ref b34), (.ref b33), (.ref b33)])) (fun t_ k_ => XS.iload X36.here hx rfl (hb hby own_d_method_3_116) rfl k_) ?_
        obtain ⟨cl38, Ar38, q38, Sz38, Nz38, Hz38, Gz38⟩ := id (V36)
        have hin38 : ¬ ((2 : Int32) < 0 ∨ cl38.slots.size ≤ ((2 : Int32)).toNatClampNeg) := inb_of Sz38 ⟨by decide, by decide⟩
        obtain ⟨T38, h38, X38, e38, W38, st38⟩ := stC X36 hx hZ e36 Ar38 (j := (2 : Int32)) hin38  (g := (mkF m 118 #[.val (.int x), .val (.int y), .val (.int ((x &&& (255 : Int32)).toUInt32.toUInt16.toUInt32.toInt32)), .val (.int ((((x.toUInt32 >>> ((8 : Int32) &&& 31).toUInt32).toInt32) &&& (255 : Int32)).toUInt32.toUInt16.toUInt32.toInt32)), .val (.int ((((x.toUInt32 >>> ((16 : Int32) &&& 31).toUInt32).toInt32) &&& (255 : Int32)).toUInt32.toUInt16.toUInt32.toInt32)), .unset] [(.int ((((x.toUInt32 >>> ((16 : Int32) &&& 31).toUInt32).toInt32) &&& (255 : Int32)).toUInt32.toUInt16.toUInt32.toInt32)), (.int (2 : Int32)), (.ref b34), (.ref b34), (.ref b33), (.ref b33)])) rfl rfl (hb hby own_d_method_3_118)
        have Fz39 := (Safe.wr W36 Fz37 R35.1 Fz37)
        have R38 := R36.trans (CHr.wr W38 Fz39 R36.1)
        have V38 : Arv Z h38 b34 k34 .char (3 : Int32) [(.int (nar .char ((x &&& (255 : Int32)).toUInt32.toUInt16.toUInt32.toInt32))), (.int (nar .char ((((x.toUInt32 >>> ((8 : Int32) &&& 31).toUInt32).toInt32) &&& (255 : Int32)).toUInt32.toUInt16.toUInt32.toInt32))), (.int (nar .char ((((x.toUInt32 >>> ((16 : Int32) &&& 31).toUInt32).toInt32) &&& (255 : Int32)).toUInt32.toUInt16.toUInt32.toInt32)))] (.int (0 : Int32)) := Arv.set Ar38 q38 Sz38 Nz38 Hz38 Gz38 (fits_nar_char _) W38 2 rfl (Nat.le_of_ble_eq_true rfl)
        have K38 : Keep h0 h38 [] := K36.wr W38 (Or.inr sz_b34)
        have N38 := Fr.snoc X38 N36 ge_b34
        have O38 := own_extW O36 W38 ge_b34
        refine own_go (T38.setTop (mkF m 119 #[.val (.int x), .val (.int y), .val (.int ((x &&& (255 : Int32)).toUInt32.toUInt16.toUInt32.toInt32)), .val (.int ((((x.toUInt32 >>> ((8 : Int32) &&& 31).toUInt32).toInt32) &&& (255 : Int32)).toUInt32.toUInt16.toUInt32.toInt32)), .val (.int ((((x.toUInt32 >>> ((16 : Int32) &&& 31).toUInt32).toInt32) &&& (255 : Int32)).toUInt32.toUInt16.toUInt32.toInt32)), .unset] [(.ref b34), (.ref b33), (.ref b33)])) (fun t_ k_ => st38 _ k_) ?_
        have hp40 : ∀ c ∈ ([(nar .char ((x &&& (255 : Int32)).toUInt32.toUInt16.toUInt32.toInt32)), (nar .char ((((x.toUInt32 >>> ((8 : Int32) &&& 31).toUInt32).toInt32) &&& (255 : Int32)).toUInt32.toUInt16.toUInt32.toInt32)), (nar .char ((((x.toUInt32 >>> ((16 : Int32) &&& 31).toUInt32).toInt32) &&& (255 : Int32)).toUInt32.toUInt16.toUInt32.toInt32))] : List Int32), ¬ c < 0 ∧ ¬ (255 : Int32) < c := (own_allS (own_c255 x) (own_allS (own_c255 ((x.toUInt32 >>> ((8 : Int32) &&& 31).toUInt32).toInt32)) (own_allS (own_c255 ((x.toUInt32 >>> ((16 : Int32) &&& 31).toUInt32).toInt32)) own_all0)))
        have Fz41 := ((((A33.ext E34).wr W35).wr W36).wr W38)
        have Nz42 : b33 ≠ b34 := (Nat.ne_of_lt (Nat.lt_of_lt_of_le A33.lt (Nat.le_of_eq g34.symm)))
        have Fz43 := ((((Fvalue_33.ext E34).other W35 (Or.inl Nz42)).other W36 (Or.inl Nz42)).other W38 (Or.inl Nz42))
        have Fz44 := ((((Fcoder_33.ext E34).other W35 (Or.inl Nz42)).other W36 (Or.inl Nz42)).other W38 (Or.inl Nz42))
        obtain ⟨_, _, ⟨T45, Lu45, ku45, nu45⟩, -, X45, ⟨Lc45, hQ45, lu45, yu45, zu45⟩, st45⟩ := X38.specialBack hx (y := (⟨"java/lang/String", "<init>", "([C)V"⟩ : MethodName)) rfl hown (mvT hZ (hw _ (List.mem_of_getElem? (i := 84) rfl))) (mvT hZ (hw _ (List.mem_of_getElem? (i := 85) rfl))) (mvT hZ (hw _ (List.mem_of_getElem? (i := 86) rfl))) (by decide) (StrChars.Road.backV (W := 1) hZ (fun d hd => hw d (own_words d hd)) (kI := 4) (hw _ (List.mem_of_getElem? (i := 3) rfl)) (cs := ([(nar .char ((x &&& (255 : Int32)).toUInt32.toUInt16.toUInt32.toInt32)), (nar .char ((((x.toUInt32 >>> ((8 : Int32) &&& 31).toUInt32).toInt32) &&& (255 : Int32)).toUInt32.toUInt16.toUInt32.toInt32)), (nar .char ((((x.toUInt32 >>> ((16 : Int32) &&& 31).toUInt32).toInt32) &&& (255 : Int32)).toUInt32.toUInt16.toUInt32.toInt32))] : List Int32)) (bs := (([(nar .char ((x &&& (255 : Int32)).toUInt32.toUInt16.toUInt32.toInt32)), (nar .char ((((x.toUInt32 >>> ((8 : Int32) &&& 31).toUInt32).toInt32) &&& (255 : Int32)).toUInt32.toUInt16.toUInt32.toInt32)), (nar .char ((((x.toUInt32 >>> ((16 : Int32) &&& 31).toUInt32).toInt32) &&& (255 : Int32)).toUInt32.toUInt16.toUInt32.toInt32))] : List Int32)).map (fun c => c.toInt8.toInt32)) (n := 3) (n0 := Z.heap.size) ge_b33 (O38.1) Fz41 Fz43 Fz44 V38 (S_CS.ext O38) n_CS rfl rfl (by decide) (by decide) hp40 rfl (by decide) (by decide)) (g := (mkF m 119 #[.val (.int x), .val (.int y), .val (.int ((x &&& (255 : Int32)).toUInt32.toUInt16.toUInt32.toInt32)), .val (.int ((((x.toUInt32 >>> ((8 : Int32) &&& 31).toUInt32).toInt32) &&& (255 : Int32)).toUInt32.toUInt16.toUInt32.toInt32)), .val (.int ((((x.toUInt32 >>> ((16 : Int32) &&& 31).toUInt32).toInt32) &&& (255 : Int32)).toUInt32.toUInt16.toUInt32.toInt32)), .unset] [(.ref b34), (.ref b33), (.ref b33)])) rfl (by rw [hml]; rfl) (Steps.refl _) (a := b33) (argsL := [(.ref b34)]) (rest := [(.ref b33)]) (lenOf own_pd7 rfl) rfl (by show 2 * 0 + _ ≤ _; exact Nat.le_of_eq rfl) (hb hby own_d_method_3_119) (fun _ _ => ⟨rfl, e38, (by decide : 2 + 1 ≤ _), (by decide : 7 + 3 ≤ _)⟩)
        dsimp only [Pt.U, Pt.locs, Pt.cells, Pt.slots] at X45 lu45 yu45 zu45 st45 hQ45
        subst lu45 yu45 zu45
        obtain ⟨rfl, N45q, K45q, X45q, C45q, t45, kb45, u1_45, u2_45, u3_45, V45q, A45q⟩ := hQ45
        have N45 := Fr.app N38 N45q
        have O45 := own_extK O38 K45q (allS ge_b33 all0)
        have KK45 : Keep h0 T45.heap [] := K38.trans K45q (allS (Or.inr sz_b33) all0)
        have Fz46 := (Safe.wr W38 Fz39 R36.1 (Safe.wr W36 Fz37 R35.1 (Safe.wr W35 Sf34 R34.1 (Safe.ext E34 R33.1 Sf33))))
        have R45 := R38.trans (CHr.keep K45q (allS Fz46 all0) R38.1)
        refine own_go (T45.setTop (mkF m 122 #[.val (.int x), .val (.int y), .val (.int ((x &&& (255 : Int32)).toUInt32.toUInt16.toUInt32.toInt32)), .val (.int ((((x.toUInt32 >>> ((8 : Int32) &&& 31).toUInt32).toInt32) &&& (255 : Int32)).toUInt32.toUInt16.toUInt32.toInt32)), .val (.int ((((x.toUInt32 >>> ((16 : Int32) &&& 31).toUInt32).toInt32) &&& (255 : Int32)).toUInt32.toUInt16.toUInt32.toInt32)), .unset] [(.ref b33)])) (fun t_ k_ => st45.trans k_) ?_
        refine own_go (T45.setTop (mkF m 124 #[.val (.int x), .val (.int y), .val (.int ((x &&& (255 : Int32)).toUInt32.toUInt16.toUInt32.toInt32)), .val (.int ((((x.toUInt32 >>> ((8 : Int32) &&& 31).toUInt32).toInt32) &&& (255 : Int32)).toUInt32.toUInt16.toUInt32.toInt32)), .val (.int ((((x.toUInt32 >>> ((16 : Int32) &&& 31).toUInt32).toInt32) &&& (255 : Int32)).toUInt32.toUInt16.toUInt32.toInt32)), .val (.ref b33)] [])) (fun t_ k_ => XS.astore X45.here hx rfl (hb hby own_d_method_3_122) rfl rfl (l' := #[.val (.int x), .val (.int y), .val (.int ((x &&& (255 : Int32)).toUInt32.toUInt16.toUInt32.toInt32)), .val (.int ((((x.toUInt32 >>> ((8 : Int32) &&& 31).toUInt32).toInt32) &&& (255 : Int32)).toUInt32.toUInt16.toUInt32.toInt32)), .val (.int ((((x.toUInt32 >>> ((16 : Int32) &&& 31).toUInt32).toInt32) &&& (255 : Int32)).toUInt32.toUInt16.toUInt32.toInt32)), .val (.ref b33)]) rfl k_) ?_
        refine own_go (T45.setTop (mkF m 126 #[.val (.int x), .val (.int y), .val (.int ((x &&& (255 : Int32)).toUInt32.toUInt16.toUInt32.toInt32)), .val (.int ((((x.toUInt32 >>> ((8 : Int32) &&& 31).toUInt32).toInt32) &&& (255 : Int32)).toUInt32.toUInt16.toUInt32.toInt32)), .val (.int ((((x.toUInt32 >>> ((16 : Int32) &&& 31).toUInt32).toInt32) &&& (255 : Int32)).toUInt32.toUInt16.toUInt32.toInt32)), .val (.ref b33)] [(.ref b33)])) (fun t_ k_ => XS.aload X45.here hx rfl (hb hby own_d_method_3_124) rfl rfl k_) ?_
        obtain ⟨fs, hr, hrun, hended, hRW⟩ := X45.leaveW hS (by rw [show T45.heap = T45.heap from rfl]; exact (Nat.le_trans (Nat.le_trans (Nat.le_trans (Nat.le_trans (Nat.le_trans (Nat.le_trans hk E33.1) E34.1) (Keep.of_wr W35).1) (Keep.of_wr W36).1) (Keep.of_wr W38).1) K45q.1)) (v := some (.ref b33)) (fun h => by rw [Bd.returns] at h; cases h)
        refine ⟨_, _, Jvm.RoadKit.retOut X45 hx Bd.returns rfl (Or.inr (Or.inr (Or.inr (Or.inr ⟨rfl, rfl, rfl⟩)))) (hb hby own_d_method_3_126) hr, hrun, hended, _, _, rfl, ?_, (by rw [hh]; show CHr Z consts_1 s.vm h0 T45.vm T45.heap; rw [show T45.heap = T45.heap from rfl]; exact R45.trans (CHv.at X45 hZ hEW R45.1)), hRW.1, hRW.2.1, hRW.2.2.1, hRW.2.2.2.mono (by decide) (by decide)⟩
        show Q_dw Z x y a_OUT a__VALUES a_INP a_TAKE_COMPLETE a_OUT_text a_INP_text a_TAKE_COMPLETE_text a_OUT_text_value a_INP_text_value a_TAKE_COMPLETE_text_value a_EM k__VALUES k_OUT_text_value k_INP_text_value k_TAKE_COMPLETE_text_value cs0 h0 _ T45.heap _
        rw [show T45.heap = T45.heap from rfl]
        exact ⟨_, _, _, ([(nar .char ((x &&& (255 : Int32)).toUInt32.toUInt16.toUInt32.toInt32)), (nar .char ((((x.toUInt32 >>> ((8 : Int32) &&& 31).toUInt32).toInt32) &&& (255 : Int32)).toUInt32.toUInt16.toUInt32.toInt32)), (nar .char ((((x.toUInt32 >>> ((16 : Int32) &&& 31).toUInt32).toInt32) &&& (255 : Int32)).toUInt32.toUInt16.toUInt32.toInt32))] : List Int32), rfl, N45, hp40, Nat.le_of_ble_eq_true rfl, KK45, X45q, V45q, C45q, A45q⟩
theorem own_ix3 (x : Int32) : ¬ ((x &&& 2147483647) % 3) < 0 ∧ ((x &&& 2147483647) % 3) < 3 ∧ ((x &&& 2147483647) % 3).toNatClampNeg < 3 := by
  obtain ⟨a, b⟩ := own_mod x 3 (by decide)
  have e0 : (0 : Int32).toInt = 0 := by decide
  have e1 : (3 : Int32).toInt = 3 := by decide
  refine ⟨fun q => ?_, ?_, ?_⟩
  · rw [Int32.lt_iff_toInt_lt] at q; omega
  · rw [Int32.lt_iff_toInt_lt]; omega
  · simp only [Int32.toNatClampNeg]; omega
theorem own_ix13 (x : Int32) : ¬ ((x &&& 2147483647) % 13) < 0 ∧ ((x &&& 2147483647) % 13) < 13 ∧ ((x &&& 2147483647) % 13).toNatClampNeg < 13 := by
  obtain ⟨a, b⟩ := own_mod x 13 (by decide)
  have e0 : (0 : Int32).toInt = 0 := by decide
  have e1 : (13 : Int32).toInt = 13 := by decide
  refine ⟨fun q => ?_, ?_, ?_⟩
  · rw [Int32.lt_iff_toInt_lt] at q; omega
  · rw [Int32.lt_iff_toInt_lt]; omega
  · simp only [Int32.toNatClampNeg]; omega
theorem own_ef_law (m : MethodId) (p0 : Int32) (p1 : Int32) (p2 : Int32) (p3 : Int32) (p4 : Int32) : entryFrame m #[(.int p0), (.int p1), (.int p2), (.int p3), (.int p4)] maxLocals = mkF m 0 #[.val (.int p0), .val (.int p1), .val (.int p2), .val (.int p3), .val (.int p4), .unset, .unset, .unset, .unset, .unset] [] := by first | (simp [entryFrame, mkF, argsToLocals, Value.category, maxLocals]; done) | rfl
theorem own_lit_WorkloadNamedPinLaw_8 : ∀ c ∈ ([111, 117, 116] : List Int32), ¬ c < 0 ∧ ¬ (255 : Int32) < c := by decide +kernel
theorem own_pd8 : parseMethodDescriptor "(Ljava/lang/String;)Ljava/util/Optional;" = some ⟨[(.object "java/lang/String")], some (.object "java/util/Optional")⟩ := by decide +kernel
theorem own_pd9 : parseMethodDescriptor "()Z" = some ⟨[], some .boolean⟩ := by decide +kernel
theorem own_pd10 : parseMethodDescriptor "()Ljava/lang/Object;" = some ⟨[], some (.object "java/lang/Object")⟩ := by decide +kernel
theorem own_lit_WorkloadNamedPinLaw_10 : ∀ c ∈ ([105, 110, 112] : List Int32), ¬ c < 0 ∧ ¬ (255 : Int32) < c := by decide +kernel
theorem own_lit_WorkloadNamedPinLaw_12 : ∀ c ∈ ([116, 97, 107, 101, 45, 99, 111, 109, 112, 108, 101, 116, 101] : List Int32), ¬ c < 0 ∧ ¬ (255 : Int32) < c := by decide +kernel
theorem own_pd11 : parseMethodDescriptor "(II)Ljava/lang/String;" = some ⟨[.int, .int], some (.object "java/lang/String")⟩ := by decide +kernel
def Q_law (Z : State) (p0 : Int32) (p1 : Int32) (p2 : Int32) (p3 : Int32) (p4 : Int32) (a_OUT : Addr) (a__VALUES : Addr) (a_INP : Addr) (a_TAKE_COMPLETE : Addr) (a_OUT_text : Addr) (a_INP_text : Addr) (a_TAKE_COMPLETE_text : Addr) (a_OUT_text_value : Addr) (a_INP_text_value : Addr) (a_TAKE_COMPLETE_text_value : Addr) (a_EM : Addr) (k__VALUES : ClassId) (k_OUT_text_value : ClassId) (k_INP_text_value : ClassId) (k_TAKE_COMPLETE_text_value : ClassId) (cs0 : Int32) (h0 : Heap) (v_ : Option Value) (h : Heap) (L_ : List Loc) : Prop := v_ = some (.int 1) ∧ Fr Z.heap.size L_ ∧ (True)
set_option maxRecDepth 65536 in
set_option maxHeartbeats 40000000 in
theorem rm_law (l : Launch) (Z : State) (a0 : Array Value) (hw : ∀ d ∈ tables_1, d.before a0 Z = true) (ws : List Jvm.Cond) (p0 : Int32) (p1 : Int32) (p2 : Int32) (p3 : Int32) (p4 : Int32) (a_OUT : Addr) (a__VALUES : Addr) (a_INP : Addr) (a_TAKE_COMPLETE : Addr) (a_OUT_text : Addr) (a_INP_text : Addr) (a_TAKE_COMPLETE_text : Addr) (a_OUT_text_value : Addr) (a_INP_text_value : Addr) (a_TAKE_COMPLETE_text_value : Addr) (a_EM : Addr) (k__VALUES : ClassId) (k_OUT_text_value : ClassId) (k_INP_text_value : ClassId) (k_TAKE_COMPLETE_text_value : ClassId) (cs0 : Int32) (h0 : Heap) (O : Ext Z.heap h0) (w : own_W Z a_OUT a__VALUES a_INP a_TAKE_COMPLETE a_OUT_text a_INP_text a_TAKE_COMPLETE_text a_OUT_text_value a_INP_text_value a_TAKE_COMPLETE_text_value a_EM k__VALUES k_OUT_text_value k_INP_text_value k_TAKE_COMPLETE_text_value cs0) :
    MetFree l x (head1 (Jvm.Cond.code x code maxLocals ret :: ws) room_1) (fun a_ U_ => a_ = #[(.int p0), (.int p1), (.int p2), (.int p3), (.int p4)] ∧ Z.Warmed39 U_.vm ∧ U_.heap = h0 ∧ CHv Z consts_1 U_.vm h0) (fun _ _ _ _ _ => True) (fun _ U_ o_ U2_ => ∃ v_ L_, o_ = .returned v_ ∧ Q_law Z p0 p1 p2 p3 p4 a_OUT a__VALUES a_INP a_TAKE_COMPLETE a_OUT_text a_INP_text a_TAKE_COMPLETE_text a_OUT_text_value a_INP_text_value a_TAKE_COMPLETE_text_value a_EM k__VALUES k_OUT_text_value k_INP_text_value k_TAKE_COMPLETE_text_value cs0 h0 v_ U2_.heap L_ ∧ ReturnedEndW U_ o_ U2_ L_ room_1.cells room_1.slots) := by
  refine MetFree.of_bodySF (plainFor_of_name own_pn4) hisR ?_
  intro p e s m args below meth c s₁ Bd hml0 hP hK
  obtain ⟨rfl, hZ, hh, hCH⟩ := hP
  have hx := Bd.exec
  have hby := Bd.bytes
  have hml : c.maxLocals = 10 := hml0
  have hown : s.vm.findClass "com/example/tuplebag/tuplebag/bench/WorkloadNamedPinLaw" = some m.cls := findClass_of_methodNamed Bd.named
  have hnm := (name_of_methodNamed Bd.named Bd.method).1
  have X0 : Stand p l e room_1 (s.setVm s.vm) m #[(.int p0), (.int p1), (.int p2), (.int p3), (.int p4)] below meth c s₁ [] 0 0 := Stand.of_body Bd
  have e0 : s₁.heap = h0 := by rw [← hh, Bd.state]; rfl
  have N0 := Fr.nil Z.heap.size
  have hS : s.Since s.vm s.heap.size := (State.WarmedH.refl _).since _
  have hk : s.heap.size ≤ h0.size := Nat.le_of_eq (congrArg Array.size hh)
  have hZ : Z.Warmed39 (s.setVm s.vm).vm := hZ
  have hown : (s.setVm s.vm).vm.findClass "com/example/tuplebag/tuplebag/bench/WorkloadNamedPinLaw" = some m.cls := hown
  show own_G p e below (fun o_ s₂ => ∃ v_ L_, o_ = .returned v_ ∧ Q_law Z p0 p1 p2 p3 p4 a_OUT a__VALUES a_INP a_TAKE_COMPLETE a_OUT_text a_INP_text a_TAKE_COMPLETE_text a_OUT_text_value a_INP_text_value a_TAKE_COMPLETE_text_value a_EM k__VALUES k_OUT_text_value k_INP_text_value k_TAKE_COMPLETE_text_value cs0 h0 v_ s₂.heap L_ ∧ ReturnedEndW s o_ s₂ L_ room_1.cells room_1.slots) (s₁.setTop (entryFrame m #[(.int p0), (.int p1), (.int p2), (.int p3), (.int p4)] maxLocals))
  refine own_go (s₁.setTop (mkF m 0 #[.val (.int p0), .val (.int p1), .val (.int p2), .val (.int p3), .val (.int p4), .unset, .unset, .unset, .unset, .unset] [])) (fun t_ k_ => castTop (own_ef_law m p0 p1 p2 p3 p4) k_) ?_
  have R0 := CHr.refl hCH
  have hEW : EW Z a0 consts_1 := own_EW hw
  have w' := w
  obtain ⟨S_OUT, X_OUT, S__VALUES, X__VALUES, S_INP, X_INP, S_TAKE_COMPLETE, X_TAKE_COMPLETE, F_OUT_text, X_OUT_text, F_INP_text, X_INP_text, F_TAKE_COMPLETE_text, X_TAKE_COMPLETE_text, F_OUT_text_value, F_INP_text_value, F_TAKE_COMPLETE_text_value, F_OUT_text_coder, F_INP_text_coder, F_TAKE_COMPLETE_text_coder, V__VALUES, V_OUT_text_value, V_INP_text_value, V_TAKE_COMPLETE_text_value, S_CS, n_CS, S_EM, X_EM, F_EM⟩ := w'
  refine own_go (s₁.setTop (mkF m 1 #[.val (.int p0), .val (.int p1), .val (.int p2), .val (.int p3), .val (.int p4), .unset, .unset, .unset, .unset, .unset] [(.int p0)])) (fun t_ k_ => XS.iloadN X0.here hx rfl (hb hby at_0) rfl k_) ?_
  refine own_go (s₁.setTop (mkF m 2 #[.val (.int p0), .val (.int p1), .val (.int p2), .val (.int p3), .val (.int p4), .unset, .unset, .unset, .unset, .unset] [(.int (3 : Int32)), (.int p0)])) (fun t_ k_ => XS.iconst X0.here hx rfl (hb hby at_1) k_) ?_
  refine own_go (s₁.setTop (mkF m 3 #[.val (.int p0), .val (.int p1), .val (.int p2), .val (.int p3), .val (.int p4), .unset, .unset, .unset, .unset, .unset] [(.int (p0 &&& (3 : Int32)))])) (fun t_ k_ => XS.iand X0.here hx rfl (hb hby at_2) rfl k_) ?_
  refine own_go (s₁.setTop (mkF m 5 #[.val (.int p0), .val (.int p1), .val (.int p2), .val (.int p3), .val (.int p4), .val (.int (p0 &&& (3 : Int32))), .unset, .unset, .unset, .unset] [])) (fun t_ k_ => XS.istore X0.here hx rfl (hb hby at_3) rfl (l' := #[.val (.int p0), .val (.int p1), .val (.int p2), .val (.int p3), .val (.int p4), .val (.int (p0 &&& (3 : Int32))), .unset, .unset, .unset, .unset]) rfl k_) ?_
  refine own_go (s₁.setTop (mkF m 6 #[.val (.int p0), .val (.int p1), .val (.int p2), .val (.int p3), .val (.int p4), .val (.int (p0 &&& (3 : Int32))), .unset, .unset, .unset, .unset] [(.int p3)])) (fun t_ k_ => XS.iloadN X0.here hx rfl (hb hby at_5) rfl k_) ?_
  refine own_go (s₁.setTop (mkF m 9 #[.val (.int p0), .val (.int p1), .val (.int p2), .val (.int p3), .val (.int p4), .val (.int (p0 &&& (3 : Int32))), .unset, .unset, .unset, .unset] [(.int (255 : Int32)), (.int p3)])) (fun t_ k_ => XS.sipush X0.here hx rfl (hb hby at_6) k_) ?_
  refine own_go (s₁.setTop (mkF m 10 #[.val (.int p0), .val (.int p1), .val (.int p2), .val (.int p3), .val (.int p4), .val (.int (p0 &&& (3 : Int32))), .unset, .unset, .unset, .unset] [(.int (p3 &&& (255 : Int32)))])) (fun t_ k_ => XS.iand X0.here hx rfl (hb hby at_9) rfl k_) ?_
  refine own_go (s₁.setTop (mkF m 11 #[.val (.int p0), .val (.int p1), .val (.int p2), .val (.int p3), .val (.int p4), .val (.int (p0 &&& (3 : Int32))), .unset, .unset, .unset, .unset] [(.int ((p3 &&& (255 : Int32)).toUInt32.toUInt16.toUInt32.toInt32))])) (fun t_ k_ => XS.i2c X0.here hx rfl (hb hby at_10) rfl k_) ?_
  refine own_go (s₁.setTop (mkF m 13 #[.val (.int p0), .val (.int p1), .val (.int p2), .val (.int p3), .val (.int p4), .val (.int (p0 &&& (3 : Int32))), .val (.int ((p3 &&& (255 : Int32)).toUInt32.toUInt16.toUInt32.toInt32)), .unset, .unset, .unset] [])) (fun t_ k_ => XS.istore X0.here hx rfl (hb hby at_11) rfl (l' := #[.val (.int p0), .val (.int p1), .val (.int p2), .val (.int p3), .val (.int p4), .val (.int (p0 &&& (3 : Int32))), .val (.int ((p3 &&& (255 : Int32)).toUInt32.toUInt16.toUInt32.toInt32)), .unset, .unset, .unset]) rfl k_) ?_
  have J1 : ∀ (hj2 : Heap) (v2 : Vm) (k2 : Nat) (hS : s.Since v2 k2) (hk : k2 ≤ hj2.size) (hZ : Z.Warmed39 (s.setVm v2).vm) (hown : (s.setVm v2).vm.findClass "com/example/tuplebag/tuplebag/bench/WorkloadNamedPinLaw" = some m.cls) (T2 : State) (l2 : List Loc) (X2 : Stand p l e room_1 (s.setVm v2) m #[(.int p0), (.int p1), (.int p2), (.int p3), (.int p4)] below meth c T2 l2 12 400) (N2 : Fr Z.heap.size l2) (e2 : T2.heap = hj2) (O2 : Ext Z.heap hj2) (K2 : Keep h0 hj2 []) (R2 : CHr Z consts_1 s.vm h0 v2 hj2) (o : Addr) (t1 : Addr) (kb : ClassId) (cs : List Int32) (sl8 : Slot) (hp : ∀ c ∈ cs, ¬ c < 0 ∧ ¬ (255 : Int32) < c) (hl : cs.length ≤ 4000) (hsl8 : One sl8) (Xo : Exa Z hj2 o "java/lang/String") (Fv : Fld Z hj2 o "java/lang/String" "value" "[B" (.ref t1)) (Fc : Fld Z hj2 o "java/lang/String" "coder" "B" (.int 0)) (Fa : Arv Z hj2 t1 kb .byte (Int32.ofNat cs.length) ((cs.map (fun c => c.toInt8.toInt32)).map Value.int) (.int 0)), own_G p e below (fun o_ s₂ => ∃ v_ L_, o_ = .returned v_ ∧ Q_law Z p0 p1 p2 p3 p4 a_OUT a__VALUES a_INP a_TAKE_COMPLETE a_OUT_text a_INP_text a_TAKE_COMPLETE_text a_OUT_text_value a_INP_text_value a_TAKE_COMPLETE_text_value a_EM k__VALUES k_OUT_text_value k_INP_text_value k_TAKE_COMPLETE_text_value cs0 h0 v_ s₂.heap L_ ∧ ReturnedEndW s o_ s₂ L_ room_1.cells room_1.slots) (T2.setTop (mkF m 258 #[.val (.int p0), .val (.int p1), .val (.int p2), .val (.int p3), .val (.int p4), .val (.int (p0 &&& (3 : Int32))), .val (.int ((p3 &&& (255 : Int32)).toUInt32.toUInt16.toUInt32.toInt32)), .val (.ref o), sl8, .unset] [])) := by
    intro hj2 v2 k2 hS hk hZ hown T2 l2 X2 N2 e2 O2 K2 R2 o t1 kb cs sl8 hp hl hsl8 Xo Fv Fc Fa
    have hbd := own_up cs hp
    have hcd := own_cod cs hp
    by_cases hq_OUT : cs = ([111, 117, 116] : List Int32)
    ·
      refine own_go (T2.setTop (mkF m 260 #[.val (.int p0), .val (.int p1), .val (.int p2), .val (.int p3), .val (.int p4), .val (.int (p0 &&& (3 : Int32))), .val (.int ((p3 &&& (255 : Int32)).toUInt32.toUInt16.toUInt32.toInt32)), .val (.ref o), sl8, .unset] [(.ref o)])) (fun t_ k_ => XS.aload X2.here hx rfl (hb hby at_258) rfl rfl k_) ?_
      obtain ⟨a3, T3, h3, k3, t3, kb3, X3, e3, E3, hS, hk, hZ, hown, A3, C3, V3, B3, lt3, ltb3, CC3, Li3, ne3, st3⟩ := ldcCH (EL := consts_1) X2 hx hZ hown (hw _ (List.mem_of_getElem? (i := 1) rfl)) (fun d hd => hw d (own_sA d hd)) e2 hS hk hEW (List.mem_of_getElem? (i := 0) rfl) R2.1 (vs := (([111, 117, 116] : List Int32).map (fun c => c.toInt8.toInt32)).map Value.int) (z := 3) (by exact ⟨by decide, by rfl⟩) (by decide) (by rfl) (g := (mkF m 260 #[.val (.int p0), .val (.int p1), .val (.int p2), .val (.int p3), .val (.int p4), .val (.int (p0 &&& (3 : Int32))), .val (.int ((p3 &&& (255 : Int32)).toUInt32.toUInt16.toUInt32.toInt32)), .val (.ref o), sl8, .unset] [(.ref o)])) rfl (hb hby at_260) (n := 12) (by decide) (by decide) (by decide) (by decide)
      have K3 : Keep h0 h3 [] := K2.ext E3
      have O3 := own_ext O2 E3
      have R3 := R2.trans CC3
      refine own_go (T3.setTop (mkF m 262 #[.val (.int p0), .val (.int p1), .val (.int p2), .val (.int p3), .val (.int p4), .val (.int (p0 &&& (3 : Int32))), .val (.int ((p3 &&& (255 : Int32)).toUInt32.toUInt16.toUInt32.toInt32)), .val (.ref o), sl8, .unset] [(.ref a3), (.ref o)])) (fun t_ k_ => st3 _ k_) ?_
      have Fz5 := (Xo.ext E3)
      have Fz6 := (Fv.ext E3)
      have Fz7 := (Fc.ext E3)
      have Fz8 := (Fa.ext E3)
      obtain ⟨cq4, kq4, q4a, q4b, q4c⟩ := isOf hZ e3 Fz5
      obtain ⟨_, _, ⟨T4, Lu4, ku4, nu4⟩, -, X4, ⟨Lc4, hQ4, lu4, yu4, zu4⟩, st4⟩ := X3.virtualBack hx (y := (⟨"java/lang/String", "equals", "(Ljava/lang/Object;)Z"⟩ : MethodName)) (z := (⟨"java/lang/String", "equals", "(Ljava/lang/Object;)Z"⟩ : MethodName)) hown (mvT hZ (hw _ (List.mem_of_getElem? (i := 9) rfl))) (mvT hZ (hw _ (List.mem_of_getElem? (i := 10) rfl))) (notFace_of_selects (args := #[]) (mvT hZ (hw _ (List.mem_of_getElem? (i := 12) rfl)))) (mvT hZ (hw _ (List.mem_of_getElem? (i := 12) rfl))) (mvT hZ (hw _ (List.mem_of_getElem? (i := 11) rfl))) (by decide) (StrChars.Road.eqW (W := 0) hZ (fun d hd => hw d (own_wordsEq d hd)) (kI := 4) (hw _ (List.mem_of_getElem? (i := 3) rfl)) Fz5 Fz6 Fz7 Fz8 hcd hbd hl A3 V3 C3 B3 (ds := ([111, 117, 116] : List Int32)) (own_cod ([111, 117, 116] : List Int32) own_lit_WorkloadNamedPinLaw_8) (own_up _ own_lit_WorkloadNamedPinLaw_8) (by decide) (S_CS.ext O3) n_CS (by decide) (by decide)) q4a q4c (g := (mkF m 262 #[.val (.int p0), .val (.int p1), .val (.int p2), .val (.int p3), .val (.int p4), .val (.int (p0 &&& (3 : Int32))), .val (.int ((p3 &&& (255 : Int32)).toUInt32.toUInt16.toUInt32.toInt32)), .val (.ref o), sl8, .unset] [(.ref a3), (.ref o)])) rfl (by rw [hml]; rfl) (Steps.refl _) (argsL := [(.ref a3)]) (rest := []) (lenOf own_pd4 rfl) rfl (by show 2 * 0 + _ ≤ _; exact Nat.le_of_eq rfl) (hb hby at_262) (fun _ _ => ⟨rfl, e3, (by decide : 14 + 0 ≤ _), (by decide : 416 + 0 ≤ _)⟩)
      dsimp only [Pt.U, Pt.locs, Pt.cells, Pt.slots] at X4 lu4 yu4 zu4 st4 hQ4
      subst lu4 yu4 zu4
      obtain ⟨hcase4, rfl, e4⟩ := hQ4
      have N4q : Fr Z.heap.size ([] : List Loc) := Fr.nil _
      have N4 := Fr.app N2 N4q
      have hv4 := hcase4.elim (fun q => q.1) (fun q => absurd (hq_OUT) q.2)
      subst hv4
      refine own_go (T4.setTop (mkF m 265 #[.val (.int p0), .val (.int p1), .val (.int p2), .val (.int p3), .val (.int p4), .val (.int (p0 &&& (3 : Int32))), .val (.int ((p3 &&& (255 : Int32)).toUInt32.toUInt16.toUInt32.toInt32)), .val (.ref o), sl8, .unset] [(.int (1 : Int32))])) (fun t_ k_ => st4.trans k_) ?_
      refine own_go (T4.setTop (mkF m 268 #[.val (.int p0), .val (.int p1), .val (.int p2), .val (.int p3), .val (.int p4), .val (.int (p0 &&& (3 : Int32))), .val (.int ((p3 &&& (255 : Int32)).toUInt32.toUInt16.toUInt32.toInt32)), .val (.ref o), sl8, .unset] [])) (fun t_ k_ => XS.ifNo X4.here hx rfl (hb hby at_265) rfl ((if0 _ _).trans (feq (by decide : ¬ ((1 : Int32) = (0 : Int32)))).1) k_) ?_
      obtain ⟨T9, X9, e9, st9⟩ := getS2 X4 hx hZ hown (host := "") (Or.inl (hw _ (List.mem_of_getElem? (i := 14) rfl))) Via.refl e4 (S_OUT.ext O3) (g := (mkF m 268 #[.val (.int p0), .val (.int p1), .val (.int p2), .val (.int p3), .val (.int p4), .val (.int (p0 &&& (3 : Int32))), .val (.int ((p3 &&& (255 : Int32)).toUInt32.toUInt16.toUInt32.toInt32)), .val (.ref o), sl8, .unset] [])) rfl (hb hby at_268)
      refine own_go (T9.setTop (mkF m 271 #[.val (.int p0), .val (.int p1), .val (.int p2), .val (.int p3), .val (.int p4), .val (.int (p0 &&& (3 : Int32))), .val (.int ((p3 &&& (255 : Int32)).toUInt32.toUInt16.toUInt32.toInt32)), .val (.ref o), sl8, .unset] [(.ref a_OUT)])) (fun t_ k_ => st9 _ k_) ?_
      refine own_go (T9.setTop (mkF m 273 #[.val (.int p0), .val (.int p1), .val (.int p2), .val (.int p3), .val (.int p4), .val (.int (p0 &&& (3 : Int32))), .val (.int ((p3 &&& (255 : Int32)).toUInt32.toUInt16.toUInt32.toInt32)), .val (.ref o), .val (.ref a_OUT), .unset] [])) (fun t_ k_ => XS.astore X9.here hx rfl (hb hby at_271) rfl rfl (l' := #[.val (.int p0), .val (.int p1), .val (.int p2), .val (.int p3), .val (.int p4), .val (.int (p0 &&& (3 : Int32))), .val (.int ((p3 &&& (255 : Int32)).toUInt32.toUInt16.toUInt32.toInt32)), .val (.ref o), .val (.ref a_OUT), .unset]) (own_st1 rfl rfl hsl8) k_) ?_
      refine own_go (T9.setTop (mkF m 315 #[.val (.int p0), .val (.int p1), .val (.int p2), .val (.int p3), .val (.int p4), .val (.int (p0 &&& (3 : Int32))), .val (.int ((p3 &&& (255 : Int32)).toUInt32.toUInt16.toUInt32.toInt32)), .val (.ref o), .val (.ref a_OUT), .unset] [])) (fun t_ k_ => XS.goto X9.here hx rfl (pc0 := 273) (pc' := 315) rfl (hb hby at_273) (by decide) (by decide) k_) ?_
      refine own_go (T9.setTop (mkF m 317 #[.val (.int p0), .val (.int p1), .val (.int p2), .val (.int p3), .val (.int p4), .val (.int (p0 &&& (3 : Int32))), .val (.int ((p3 &&& (255 : Int32)).toUInt32.toUInt16.toUInt32.toInt32)), .val (.ref o), .val (.ref a_OUT), .unset] [(.ref o)])) (fun t_ k_ => XS.aload X9.here hx rfl (hb hby at_315) rfl rfl k_) ?_
      obtain ⟨_, _, ⟨T10, Lu10, ku10, nu10⟩, -, X10, ⟨Lc10, hQ10, lu10, yu10, zu10⟩, st10⟩ := Jvm.LawKit.callS X9 hx (y := (⟨"com/example/tuplebag/tuplebag/bench/Workload", "named", "(Ljava/lang/String;)Ljava/util/Optional;"⟩ : MethodName)) hown (mvT hZ (hw _ (List.mem_of_getElem? (i := 17) rfl))) (mvT hZ (hw _ (List.mem_of_getElem? (i := 18) rfl))) (mvT hZ (hw _ (List.mem_of_getElem? (i := 15) rfl))) (mvT hZ (hw _ (List.mem_of_getElem? (i := 19) rfl))) (by decide) (backOf (W := 0) (rm_nd_OUT l Z a0 hw [] (o) (t1) (kb) (cs) (a_OUT) (a__VALUES) (a_INP) (a_TAKE_COMPLETE) (a_OUT_text) (a_INP_text) (a_TAKE_COMPLETE_text) (a_OUT_text_value) (a_INP_text_value) (a_TAKE_COMPLETE_text_value) (a_EM) (k__VALUES) (k_OUT_text_value) (k_INP_text_value) (k_TAKE_COMPLETE_text_value) (cs0) h3 O3 w Fz5 Fz6 Fz7 Fz8 hp hl hq_OUT) hZ (hw _ (List.mem_of_getElem? (i := 19) rfl)) (hw _ (List.mem_of_getElem? (i := 15) rfl)) (by decide) (by decide)) (g := (mkF m 317 #[.val (.int p0), .val (.int p1), .val (.int p2), .val (.int p3), .val (.int p4), .val (.int (p0 &&& (3 : Int32))), .val (.int ((p3 &&& (255 : Int32)).toUInt32.toUInt16.toUInt32.toInt32)), .val (.ref o), .val (.ref a_OUT), .unset] [(.ref o)])) rfl (by rw [hml]; rfl) (argsL := [(.ref o)]) (rest := []) (lenOf own_pd8 rfl) rfl (by show 2 * 0 + _ ≤ _; exact Nat.le_of_eq rfl) (hb hby at_317) (fun _ _ => ⟨rfl, e9, (by decide : 14 + 2 ≤ _), (by decide : 416 + 4 ≤ _)⟩)
      dsimp only [Pt.U, Pt.locs, Pt.cells, Pt.slots] at X10 lu10 yu10 zu10 st10 hQ10
      subst lu10 yu10 zu10
      obtain ⟨r10, rfl, N10q, K10q, X10q, F10q⟩ := hQ10
      have N10 := Fr.app N4 N10q
      have O10 := own_extK O3 K10q all0
      have KK10 : Keep h0 T10.heap [] := K3.trans K10q all0
      have R10 := R3.trans (CHr.keep K10q all0 R3.1)
      refine own_go (T10.setTop (mkF m 320 #[.val (.int p0), .val (.int p1), .val (.int p2), .val (.int p3), .val (.int p4), .val (.int (p0 &&& (3 : Int32))), .val (.int ((p3 &&& (255 : Int32)).toUInt32.toUInt16.toUInt32.toInt32)), .val (.ref o), .val (.ref a_OUT), .unset] [(.ref r10)])) (fun t_ k_ => st10 _ k_) ?_
      refine own_go (T10.setTop (mkF m 322 #[.val (.int p0), .val (.int p1), .val (.int p2), .val (.int p3), .val (.int p4), .val (.int (p0 &&& (3 : Int32))), .val (.int ((p3 &&& (255 : Int32)).toUInt32.toUInt16.toUInt32.toInt32)), .val (.ref o), .val (.ref a_OUT), .val (.ref r10)] [])) (fun t_ k_ => XS.astore X10.here hx rfl (hb hby at_320) rfl rfl (l' := #[.val (.int p0), .val (.int p1), .val (.int p2), .val (.int p3), .val (.int p4), .val (.int (p0 &&& (3 : Int32))), .val (.int ((p3 &&& (255 : Int32)).toUInt32.toUInt16.toUInt32.toInt32)), .val (.ref o), .val (.ref a_OUT), .val (.ref r10)]) rfl k_) ?_
      refine own_go (T10.setTop (mkF m 324 #[.val (.int p0), .val (.int p1), .val (.int p2), .val (.int p3), .val (.int p4), .val (.int (p0 &&& (3 : Int32))), .val (.int ((p3 &&& (255 : Int32)).toUInt32.toUInt16.toUInt32.toInt32)), .val (.ref o), .val (.ref a_OUT), .val (.ref r10)] [(.ref a_OUT)])) (fun t_ k_ => XS.aload X10.here hx rfl (hb hby at_322) rfl rfl k_) ?_
      refine own_go (T10.setTop (mkF m 341 #[.val (.int p0), .val (.int p1), .val (.int p2), .val (.int p3), .val (.int p4), .val (.int (p0 &&& (3 : Int32))), .val (.int ((p3 &&& (255 : Int32)).toUInt32.toUInt16.toUInt32.toInt32)), .val (.ref o), .val (.ref a_OUT), .val (.ref r10)] [])) (fun t_ k_ => XS.ifnonnullYes X10.here hx rfl (pc0 := 324) (pc' := 341) rfl (hb hby at_324) rfl (by decide) (by decide) k_) ?_
      refine own_go (T10.setTop (mkF m 343 #[.val (.int p0), .val (.int p1), .val (.int p2), .val (.int p3), .val (.int p4), .val (.int (p0 &&& (3 : Int32))), .val (.int ((p3 &&& (255 : Int32)).toUInt32.toUInt16.toUInt32.toInt32)), .val (.ref o), .val (.ref a_OUT), .val (.ref r10)] [(.ref r10)])) (fun t_ k_ => XS.aload X10.here hx rfl (hb hby at_341) rfl rfl k_) ?_
      obtain ⟨cq11, kq11, q11a, q11b, q11c⟩ := isOf hZ rfl X10q
      obtain ⟨_, _, ⟨T11, Lu11, ku11, nu11⟩, -, X11, ⟨Lc11, hQ11, lu11, yu11, zu11⟩, st11⟩ := X10.virtualBack hx (y := (⟨"java/util/Optional", "isPresent", "()Z"⟩ : MethodName)) (z := (⟨"java/util/Optional", "isPresent", "()Z"⟩ : MethodName)) hown (mvT hZ (hw _ (List.mem_of_getElem? (i := 72) rfl))) (mvT hZ (hw _ (List.mem_of_getElem? (i := 73) rfl))) (notFace_of_selects (args := #[]) (mvT hZ (hw _ (List.mem_of_getElem? (i := 75) rfl)))) (mvT hZ (hw _ (List.mem_of_getElem? (i := 75) rfl))) (mvT hZ (hw _ (List.mem_of_getElem? (i := 74) rfl))) (by decide) (backOf (W := 0) (rm_pR l Z a0 hw [] (r10) (a_OUT) T10.heap O10 F10q) hZ (hw _ (List.mem_of_getElem? (i := 76) rfl)) (hw _ (List.mem_of_getElem? (i := 22) rfl)) (by decide) (by decide)) q11a q11c (g := (mkF m 343 #[.val (.int p0), .val (.int p1), .val (.int p2), .val (.int p3), .val (.int p4), .val (.int (p0 &&& (3 : Int32))), .val (.int ((p3 &&& (255 : Int32)).toUInt32.toUInt16.toUInt32.toInt32)), .val (.ref o), .val (.ref a_OUT), .val (.ref r10)] [(.ref r10)])) rfl (by rw [hml]; rfl) (Steps.refl _) (argsL := []) (rest := []) (lenOf own_pd9 rfl) rfl (by show 2 * 0 + _ ≤ _; exact Nat.le_of_eq rfl) (hb hby at_343) (fun _ _ => ⟨rfl, rfl, (by decide : 16 + 0 ≤ _), (by decide : 420 + 0 ≤ _)⟩)
      dsimp only [Pt.U, Pt.locs, Pt.cells, Pt.slots] at X11 lu11 yu11 zu11 st11 hQ11
      subst lu11 yu11 zu11
      obtain ⟨rfl, N11q, e11⟩ := hQ11
      have N11 := Fr.app N10 N11q
      refine own_go (T11.setTop (mkF m 346 #[.val (.int p0), .val (.int p1), .val (.int p2), .val (.int p3), .val (.int p4), .val (.int (p0 &&& (3 : Int32))), .val (.int ((p3 &&& (255 : Int32)).toUInt32.toUInt16.toUInt32.toInt32)), .val (.ref o), .val (.ref a_OUT), .val (.ref r10)] [(.int (1 : Int32))])) (fun t_ k_ => st11.trans k_) ?_
      refine own_go (T11.setTop (mkF m 349 #[.val (.int p0), .val (.int p1), .val (.int p2), .val (.int p3), .val (.int p4), .val (.int (p0 &&& (3 : Int32))), .val (.int ((p3 &&& (255 : Int32)).toUInt32.toUInt16.toUInt32.toInt32)), .val (.ref o), .val (.ref a_OUT), .val (.ref r10)] [])) (fun t_ k_ => XS.ifNo X11.here hx rfl (hb hby at_346) rfl ((if0 _ _).trans (feq (by decide : ¬ ((1 : Int32) = (0 : Int32)))).1) k_) ?_
      refine own_go (T11.setTop (mkF m 351 #[.val (.int p0), .val (.int p1), .val (.int p2), .val (.int p3), .val (.int p4), .val (.int (p0 &&& (3 : Int32))), .val (.int ((p3 &&& (255 : Int32)).toUInt32.toUInt16.toUInt32.toInt32)), .val (.ref o), .val (.ref a_OUT), .val (.ref r10)] [(.ref r10)])) (fun t_ k_ => XS.aload X11.here hx rfl (hb hby at_349) rfl rfl k_) ?_
      obtain ⟨cq12, kq12, q12a, q12b, q12c⟩ := isOf hZ e11 X10q
      obtain ⟨_, _, ⟨T12, Lu12, ku12, nu12⟩, -, X12, ⟨Lc12, hQ12, lu12, yu12, zu12⟩, st12⟩ := X11.virtualBack hx (y := (⟨"java/util/Optional", "get", "()Ljava/lang/Object;"⟩ : MethodName)) (z := (⟨"java/util/Optional", "get", "()Ljava/lang/Object;"⟩ : MethodName)) hown (mvT hZ (hw _ (List.mem_of_getElem? (i := 77) rfl))) (mvT hZ (hw _ (List.mem_of_getElem? (i := 78) rfl))) (notFace_of_selects (args := #[]) (mvT hZ (hw _ (List.mem_of_getElem? (i := 80) rfl)))) (mvT hZ (hw _ (List.mem_of_getElem? (i := 80) rfl))) (mvT hZ (hw _ (List.mem_of_getElem? (i := 79) rfl))) (by decide) (backOf (W := 0) (rm_gR l Z a0 hw [] (r10) (a_OUT) T10.heap O10 F10q) hZ (hw _ (List.mem_of_getElem? (i := 81) rfl)) (hw _ (List.mem_of_getElem? (i := 22) rfl)) (by decide) (by decide)) q12a q12c (g := (mkF m 351 #[.val (.int p0), .val (.int p1), .val (.int p2), .val (.int p3), .val (.int p4), .val (.int (p0 &&& (3 : Int32))), .val (.int ((p3 &&& (255 : Int32)).toUInt32.toUInt16.toUInt32.toInt32)), .val (.ref o), .val (.ref a_OUT), .val (.ref r10)] [(.ref r10)])) rfl (by rw [hml]; rfl) (Steps.refl _) (argsL := []) (rest := []) (lenOf own_pd10 rfl) rfl (by show 2 * 0 + _ ≤ _; exact Nat.le_of_eq rfl) (hb hby at_351) (fun _ _ => ⟨rfl, e11, (by decide : 16 + 0 ≤ _), (by decide : 420 + 0 ≤ _)⟩)
      dsimp only [Pt.U, Pt.locs, Pt.cells, Pt.slots] at X12 lu12 yu12 zu12 st12 hQ12
      subst lu12 yu12 zu12
      obtain ⟨rfl, N12q, e12⟩ := hQ12
      have N12 := Fr.app N11 N12q
      refine own_go (T12.setTop (mkF m 354 #[.val (.int p0), .val (.int p1), .val (.int p2), .val (.int p3), .val (.int p4), .val (.int (p0 &&& (3 : Int32))), .val (.int ((p3 &&& (255 : Int32)).toUInt32.toUInt16.toUInt32.toInt32)), .val (.ref o), .val (.ref a_OUT), .val (.ref r10)] [(.ref a_OUT)])) (fun t_ k_ => st12.trans k_) ?_
      refine own_go (T12.setTop (mkF m 356 #[.val (.int p0), .val (.int p1), .val (.int p2), .val (.int p3), .val (.int p4), .val (.int (p0 &&& (3 : Int32))), .val (.int ((p3 &&& (255 : Int32)).toUInt32.toUInt16.toUInt32.toInt32)), .val (.ref o), .val (.ref a_OUT), .val (.ref r10)] [(.ref a_OUT), (.ref a_OUT)])) (fun t_ k_ => XS.aload X12.here hx rfl (hb hby at_354) rfl rfl k_) ?_
      refine own_go (T12.setTop (mkF m 359 #[.val (.int p0), .val (.int p1), .val (.int p2), .val (.int p3), .val (.int p4), .val (.int (p0 &&& (3 : Int32))), .val (.int ((p3 &&& (255 : Int32)).toUInt32.toUInt16.toUInt32.toInt32)), .val (.ref o), .val (.ref a_OUT), .val (.ref r10)] [])) (fun t_ k_ => Jvm.RoadKit.acmp (g := (mkF m 356 #[.val (.int p0), .val (.int p1), .val (.int p2), .val (.int p3), .val (.int p4), .val (.int (p0 &&& (3 : Int32))), .val (.int ((p3 &&& (255 : Int32)).toUInt32.toUInt16.toUInt32.toInt32)), .val (.ref o), .val (.ref a_OUT), .val (.ref r10)] [(.ref a_OUT), (.ref a_OUT)])) X12 hx rfl rfl rfl (pc0 := 356) (pc' := 359) (same := true) rfl (hb hby at_356) rfl (decide_eq_true rfl) (by decide) (by decide) k_) ?_
      refine own_go (T12.setTop (mkF m 360 #[.val (.int p0), .val (.int p1), .val (.int p2), .val (.int p3), .val (.int p4), .val (.int (p0 &&& (3 : Int32))), .val (.int ((p3 &&& (255 : Int32)).toUInt32.toUInt16.toUInt32.toInt32)), .val (.ref o), .val (.ref a_OUT), .val (.ref r10)] [(.int (1 : Int32))])) (fun t_ k_ => XS.iconst X12.here hx rfl (hb hby at_359) k_) ?_
      refine own_go (T12.setTop (mkF m 364 #[.val (.int p0), .val (.int p1), .val (.int p2), .val (.int p3), .val (.int p4), .val (.int (p0 &&& (3 : Int32))), .val (.int ((p3 &&& (255 : Int32)).toUInt32.toUInt16.toUInt32.toInt32)), .val (.ref o), .val (.ref a_OUT), .val (.ref r10)] [(.int (1 : Int32))])) (fun t_ k_ => XS.goto X12.here hx rfl (pc0 := 360) (pc' := 364) rfl (hb hby at_360) (by decide) (by decide) k_) ?_
      obtain ⟨fs, hr, hrun, hended, hRW⟩ := X12.leaveW hS (by rw [show T12.heap = T10.heap from e12]; exact (Nat.le_trans hk K10q.1)) (v := some (.int (nar .boolean (1 : Int32)))) (fun h => by rw [Bd.returns] at h; cases h)
      refine ⟨_, _, retN X12 hx (t := .boolean) Bd.returns (by simp) (hb hby at_364) hr, hrun, hended, _, _, rfl, ?_, hRW.1, hRW.2.1, hRW.2.2.1, hRW.2.2.2.mono (by decide) (by decide)⟩
      show Q_law Z p0 p1 p2 p3 p4 a_OUT a__VALUES a_INP a_TAKE_COMPLETE a_OUT_text a_INP_text a_TAKE_COMPLETE_text a_OUT_text_value a_INP_text_value a_TAKE_COMPLETE_text_value a_EM k__VALUES k_OUT_text_value k_INP_text_value k_TAKE_COMPLETE_text_value cs0 h0 _ T12.heap _
      exact ⟨rfl, N12, trivial⟩
    ·
      refine own_go (T2.setTop (mkF m 260 #[.val (.int p0), .val (.int p1), .val (.int p2), .val (.int p3), .val (.int p4), .val (.int (p0 &&& (3 : Int32))), .val (.int ((p3 &&& (255 : Int32)).toUInt32.toUInt16.toUInt32.toInt32)), .val (.ref o), sl8, .unset] [(.ref o)])) (fun t_ k_ => XS.aload X2.here hx rfl (hb hby at_258) rfl rfl k_) ?_
      obtain ⟨a13, T13, h13, k13, t13, kb13, X13, e13, E13, hS, hk, hZ, hown, A13, C13, V13, B13, lt13, ltb13, CC13, Li13, ne13, st13⟩ := ldcCH (EL := consts_1) X2 hx hZ hown (hw _ (List.mem_of_getElem? (i := 1) rfl)) (fun d hd => hw d (own_sA d hd)) e2 hS hk hEW (List.mem_of_getElem? (i := 0) rfl) R2.1 (vs := (([111, 117, 116] : List Int32).map (fun c => c.toInt8.toInt32)).map Value.int) (z := 3) (by exact ⟨by decide, by rfl⟩) (by decide) (by rfl) (g := (mkF m 260 #[.val (.int p0), .val (.int p1), .val (.int p2), .val (.int p3), .val (.int p4), .val (.int (p0 &&& (3 : Int32))), .val (.int ((p3 &&& (255 : Int32)).toUInt32.toUInt16.toUInt32.toInt32)), .val (.ref o), sl8, .unset] [(.ref o)])) rfl (hb hby at_260) (n := 12) (by decide) (by decide) (by decide) (by decide)
      have K13 : Keep h0 h13 [] := K2.ext E13
      have O13 := own_ext O2 E13
      have R13 := R2.trans CC13
      refine own_go (T13.setTop (mkF m 262 #[.val (.int p0), .val (.int p1), .val (.int p2), .val (.int p3), .val (.int p4), .val (.int (p0 &&& (3 : Int32))), .val (.int ((p3 &&& (255 : Int32)).toUInt32.toUInt16.toUInt32.toInt32)), .val (.ref o), sl8, .unset] [(.ref a13), (.ref o)])) (fun t_ k_ => st13 _ k_) ?_
      have Fz15 := (Xo.ext E13)
      have Fz16 := (Fv.ext E13)
      have Fz17 := (Fc.ext E13)
      have Fz18 := (Fa.ext E13)
      obtain ⟨cq14, kq14, q14a, q14b, q14c⟩ := isOf hZ e13 Fz15
      obtain ⟨_, _, ⟨T14, Lu14, ku14, nu14⟩, -, X14, ⟨Lc14, hQ14, lu14, yu14, zu14⟩, st14⟩ := X13.virtualBack hx (y := (⟨"java/lang/String", "equals", "(Ljava/lang/Object;)Z"⟩ : MethodName)) (z := (⟨"java/lang/String", "equals", "(Ljava/lang/Object;)Z"⟩ : MethodName)) hown (mvT hZ (hw _ (List.mem_of_getElem? (i := 9) rfl))) (mvT hZ (hw _ (List.mem_of_getElem? (i := 10) rfl))) (notFace_of_selects (args := #[]) (mvT hZ (hw _ (List.mem_of_getElem? (i := 12) rfl)))) (mvT hZ (hw _ (List.mem_of_getElem? (i := 12) rfl))) (mvT hZ (hw _ (List.mem_of_getElem? (i := 11) rfl))) (by decide) (StrChars.Road.eqW (W := 0) hZ (fun d hd => hw d (own_wordsEq d hd)) (kI := 4) (hw _ (List.mem_of_getElem? (i := 3) rfl)) Fz15 Fz16 Fz17 Fz18 hcd hbd hl A13 V13 C13 B13 (ds := ([111, 117, 116] : List Int32)) (own_cod ([111, 117, 116] : List Int32) own_lit_WorkloadNamedPinLaw_8) (own_up _ own_lit_WorkloadNamedPinLaw_8) (by decide) (S_CS.ext O13) n_CS (by decide) (by decide)) q14a q14c (g := (mkF m 262 #[.val (.int p0), .val (.int p1), .val (.int p2), .val (.int p3), .val (.int p4), .val (.int (p0 &&& (3 : Int32))), .val (.int ((p3 &&& (255 : Int32)).toUInt32.toUInt16.toUInt32.toInt32)), .val (.ref o), sl8, .unset] [(.ref a13), (.ref o)])) rfl (by rw [hml]; rfl) (Steps.refl _) (argsL := [(.ref a13)]) (rest := []) (lenOf own_pd4 rfl) rfl (by show 2 * 0 + _ ≤ _; exact Nat.le_of_eq rfl) (hb hby at_262) (fun _ _ => ⟨rfl, e13, (by decide : 14 + 0 ≤ _), (by decide : 416 + 0 ≤ _)⟩)
      dsimp only [Pt.U, Pt.locs, Pt.cells, Pt.slots] at X14 lu14 yu14 zu14 st14 hQ14
      subst lu14 yu14 zu14
      obtain ⟨hcase14, rfl, e14⟩ := hQ14
      have N14q : Fr Z.heap.size ([] : List Loc) := Fr.nil _
      have N14 := Fr.app N2 N14q
      have hv14 := hcase14.elim (fun q => absurd q.2 (hq_OUT)) (fun q => q.1)
      subst hv14
      refine own_go (T14.setTop (mkF m 265 #[.val (.int p0), .val (.int p1), .val (.int p2), .val (.int p3), .val (.int p4), .val (.int (p0 &&& (3 : Int32))), .val (.int ((p3 &&& (255 : Int32)).toUInt32.toUInt16.toUInt32.toInt32)), .val (.ref o), sl8, .unset] [(.int (0 : Int32))])) (fun t_ k_ => st14.trans k_) ?_
      refine own_go (T14.setTop (mkF m 276 #[.val (.int p0), .val (.int p1), .val (.int p2), .val (.int p3), .val (.int p4), .val (.int (p0 &&& (3 : Int32))), .val (.int ((p3 &&& (255 : Int32)).toUInt32.toUInt16.toUInt32.toInt32)), .val (.ref o), sl8, .unset] [])) (fun t_ k_ => XS.ifYes X14.here hx rfl (pc0 := 265) (pc' := 276) rfl (hb hby at_265) rfl ((if0 _ _).trans (teq (by decide : (0 : Int32) = (0 : Int32))).1) (by decide) (by decide) k_) ?_
      by_cases hq_INP : cs = ([105, 110, 112] : List Int32)
      ·
        refine own_go (T14.setTop (mkF m 278 #[.val (.int p0), .val (.int p1), .val (.int p2), .val (.int p3), .val (.int p4), .val (.int (p0 &&& (3 : Int32))), .val (.int ((p3 &&& (255 : Int32)).toUInt32.toUInt16.toUInt32.toInt32)), .val (.ref o), sl8, .unset] [(.ref o)])) (fun t_ k_ => XS.aload X14.here hx rfl (hb hby at_276) rfl rfl k_) ?_
        obtain ⟨a19, T19, h19, k19, t19, kb19, X19, e19, E19, hS, hk, hZ, hown, A19, C19, V19, B19, lt19, ltb19, CC19, Li19, ne19, st19⟩ := ldcCH (EL := consts_1) X14 hx hZ hown (hw _ (List.mem_of_getElem? (i := 101) rfl)) (fun d hd => hw d (own_sA d hd)) e14 hS hk hEW (List.mem_of_getElem? (i := 1) rfl) R13.1 (vs := (([105, 110, 112] : List Int32).map (fun c => c.toInt8.toInt32)).map Value.int) (z := 3) (by exact ⟨by decide, by rfl⟩) (by decide) (by rfl) (g := (mkF m 278 #[.val (.int p0), .val (.int p1), .val (.int p2), .val (.int p3), .val (.int p4), .val (.int (p0 &&& (3 : Int32))), .val (.int ((p3 &&& (255 : Int32)).toUInt32.toUInt16.toUInt32.toInt32)), .val (.ref o), sl8, .unset] [(.ref o)])) rfl (hb hby at_278) (n := 12) (by decide) (by decide) (by decide) (by decide)
        have K19 : Keep h0 h19 [] := K13.ext E19
        have O19 := own_ext O13 E19
        have R19 := R13.trans CC19
        refine own_go (T19.setTop (mkF m 280 #[.val (.int p0), .val (.int p1), .val (.int p2), .val (.int p3), .val (.int p4), .val (.int (p0 &&& (3 : Int32))), .val (.int ((p3 &&& (255 : Int32)).toUInt32.toUInt16.toUInt32.toInt32)), .val (.ref o), sl8, .unset] [(.ref a19), (.ref o)])) (fun t_ k_ => st19 _ k_) ?_
        have Fz21 := (Fz15.ext E19)
        have Fz22 := (Fz16.ext E19)
        have Fz23 := (Fz17.ext E19)
        have Fz24 := (Fz18.ext E19)
        obtain ⟨cq20, kq20, q20a, q20b, q20c⟩ := isOf hZ e19 Fz21
        obtain ⟨_, _, ⟨T20, Lu20, ku20, nu20⟩, -, X20, ⟨Lc20, hQ20, lu20, yu20, zu20⟩, st20⟩ := X19.virtualBack hx (y := (⟨"java/lang/String", "equals", "(Ljava/lang/Object;)Z"⟩ : MethodName)) (z := (⟨"java/lang/String", "equals", "(Ljava/lang/Object;)Z"⟩ : MethodName)) hown (mvT hZ (hw _ (List.mem_of_getElem? (i := 9) rfl))) (mvT hZ (hw _ (List.mem_of_getElem? (i := 10) rfl))) (notFace_of_selects (args := #[]) (mvT hZ (hw _ (List.mem_of_getElem? (i := 12) rfl)))) (mvT hZ (hw _ (List.mem_of_getElem? (i := 12) rfl))) (mvT hZ (hw _ (List.mem_of_getElem? (i := 11) rfl))) (by decide) (StrChars.Road.eqW (W := 0) hZ (fun d hd => hw d (own_wordsEq d hd)) (kI := 4) (hw _ (List.mem_of_getElem? (i := 3) rfl)) Fz21 Fz22 Fz23 Fz24 hcd hbd hl A19 V19 C19 B19 (ds := ([105, 110, 112] : List Int32)) (own_cod ([105, 110, 112] : List Int32) own_lit_WorkloadNamedPinLaw_10) (own_up _ own_lit_WorkloadNamedPinLaw_10) (by decide) (S_CS.ext O19) n_CS (by decide) (by decide)) q20a q20c (g := (mkF m 280 #[.val (.int p0), .val (.int p1), .val (.int p2), .val (.int p3), .val (.int p4), .val (.int (p0 &&& (3 : Int32))), .val (.int ((p3 &&& (255 : Int32)).toUInt32.toUInt16.toUInt32.toInt32)), .val (.ref o), sl8, .unset] [(.ref a19), (.ref o)])) rfl (by rw [hml]; rfl) (Steps.refl _) (argsL := [(.ref a19)]) (rest := []) (lenOf own_pd4 rfl) rfl (by show 2 * 0 + _ ≤ _; exact Nat.le_of_eq rfl) (hb hby at_280) (fun _ _ => ⟨rfl, e19, (by decide : 16 + 0 ≤ _), (by decide : 432 + 0 ≤ _)⟩)
        dsimp only [Pt.U, Pt.locs, Pt.cells, Pt.slots] at X20 lu20 yu20 zu20 st20 hQ20
        subst lu20 yu20 zu20
        obtain ⟨hcase20, rfl, e20⟩ := hQ20
        have N20q : Fr Z.heap.size ([] : List Loc) := Fr.nil _
        have N20 := Fr.app N14 N20q
        have hv20 := hcase20.elim (fun q => q.1) (fun q => absurd (hq_INP) q.2)
        subst hv20
        refine own_go (T20.setTop (mkF m 283 #[.val (.int p0), .val (.int p1), .val (.int p2), .val (.int p3), .val (.int p4), .val (.int (p0 &&& (3 : Int32))), .val (.int ((p3 &&& (255 : Int32)).toUInt32.toUInt16.toUInt32.toInt32)), .val (.ref o), sl8, .unset] [(.int (1 : Int32))])) (fun t_ k_ => st20.trans k_) ?_
        refine own_go (T20.setTop (mkF m 286 #[.val (.int p0), .val (.int p1), .val (.int p2), .val (.int p3), .val (.int p4), .val (.int (p0 &&& (3 : Int32))), .val (.int ((p3 &&& (255 : Int32)).toUInt32.toUInt16.toUInt32.toInt32)), .val (.ref o), sl8, .unset] [])) (fun t_ k_ => XS.ifNo X20.here hx rfl (hb hby at_283) rfl ((if0 _ _).trans (feq (by decide : ¬ ((1 : Int32) = (0 : Int32)))).1) k_) ?_
        obtain ⟨T25, X25, e25, st25⟩ := getS2 X20 hx hZ hown (host := "") (Or.inl (hw _ (List.mem_of_getElem? (i := 103) rfl))) Via.refl e20 (S_INP.ext O19) (g := (mkF m 286 #[.val (.int p0), .val (.int p1), .val (.int p2), .val (.int p3), .val (.int p4), .val (.int (p0 &&& (3 : Int32))), .val (.int ((p3 &&& (255 : Int32)).toUInt32.toUInt16.toUInt32.toInt32)), .val (.ref o), sl8, .unset] [])) rfl (hb hby at_286)
        refine own_go (T25.setTop (mkF m 289 #[.val (.int p0), .val (.int p1), .val (.int p2), .val (.int p3), .val (.int p4), .val (.int (p0 &&& (3 : Int32))), .val (.int ((p3 &&& (255 : Int32)).toUInt32.toUInt16.toUInt32.toInt32)), .val (.ref o), sl8, .unset] [(.ref a_INP)])) (fun t_ k_ => st25 _ k_) ?_
        refine own_go (T25.setTop (mkF m 291 #[.val (.int p0), .val (.int p1), .val (.int p2), .val (.int p3), .val (.int p4), .val (.int (p0 &&& (3 : Int32))), .val (.int ((p3 &&& (255 : Int32)).toUInt32.toUInt16.toUInt32.toInt32)), .val (.ref o), .val (.ref a_INP), .unset] [])) (fun t_ k_ => XS.astore X25.here hx rfl (hb hby at_289) rfl rfl (l' := #[.val (.int p0), .val (.int p1), .val (.int p2), .val (.int p3), .val (.int p4), .val (.int (p0 &&& (3 : Int32))), .val (.int ((p3 &&& (255 : Int32)).toUInt32.toUInt16.toUInt32.toInt32)), .val (.ref o), .val (.ref a_INP), .unset]) (own_st1 rfl rfl hsl8) k_) ?_
        refine own_go (T25.setTop (mkF m 315 #[.val (.int p0), .val (.int p1), .val (.int p2), .val (.int p3), .val (.int p4), .val (.int (p0 &&& (3 : Int32))), .val (.int ((p3 &&& (255 : Int32)).toUInt32.toUInt16.toUInt32.toInt32)), .val (.ref o), .val (.ref a_INP), .unset] [])) (fun t_ k_ => XS.goto X25.here hx rfl (pc0 := 291) (pc' := 315) rfl (hb hby at_291) (by decide) (by decide) k_) ?_
        refine own_go (T25.setTop (mkF m 317 #[.val (.int p0), .val (.int p1), .val (.int p2), .val (.int p3), .val (.int p4), .val (.int (p0 &&& (3 : Int32))), .val (.int ((p3 &&& (255 : Int32)).toUInt32.toUInt16.toUInt32.toInt32)), .val (.ref o), .val (.ref a_INP), .unset] [(.ref o)])) (fun t_ k_ => XS.aload X25.here hx rfl (hb hby at_315) rfl rfl k_) ?_
        obtain ⟨_, _, ⟨T26, Lu26, ku26, nu26⟩, -, X26, ⟨Lc26, hQ26, lu26, yu26, zu26⟩, st26⟩ := Jvm.LawKit.callS X25 hx (y := (⟨"com/example/tuplebag/tuplebag/bench/Workload", "named", "(Ljava/lang/String;)Ljava/util/Optional;"⟩ : MethodName)) hown (mvT hZ (hw _ (List.mem_of_getElem? (i := 17) rfl))) (mvT hZ (hw _ (List.mem_of_getElem? (i := 18) rfl))) (mvT hZ (hw _ (List.mem_of_getElem? (i := 15) rfl))) (mvT hZ (hw _ (List.mem_of_getElem? (i := 19) rfl))) (by decide) (backOf (W := 0) (rm_nd_INP l Z a0 hw [] (o) (t1) (kb) (cs) (a_OUT) (a__VALUES) (a_INP) (a_TAKE_COMPLETE) (a_OUT_text) (a_INP_text) (a_TAKE_COMPLETE_text) (a_OUT_text_value) (a_INP_text_value) (a_TAKE_COMPLETE_text_value) (a_EM) (k__VALUES) (k_OUT_text_value) (k_INP_text_value) (k_TAKE_COMPLETE_text_value) (cs0) h19 O19 w Fz21 Fz22 Fz23 Fz24 hp hl hq_INP) hZ (hw _ (List.mem_of_getElem? (i := 19) rfl)) (hw _ (List.mem_of_getElem? (i := 15) rfl)) (by decide) (by decide)) (g := (mkF m 317 #[.val (.int p0), .val (.int p1), .val (.int p2), .val (.int p3), .val (.int p4), .val (.int (p0 &&& (3 : Int32))), .val (.int ((p3 &&& (255 : Int32)).toUInt32.toUInt16.toUInt32.toInt32)), .val (.ref o), .val (.ref a_INP), .unset] [(.ref o)])) rfl (by rw [hml]; rfl) (argsL := [(.ref o)]) (rest := []) (lenOf own_pd8 rfl) rfl (by show 2 * 0 + _ ≤ _; exact Nat.le_of_eq rfl) (hb hby at_317) (fun _ _ => ⟨rfl, e25, (by decide : 16 + 2 ≤ _), (by decide : 432 + 4 ≤ _)⟩)
        dsimp only [Pt.U, Pt.locs, Pt.cells, Pt.slots] at X26 lu26 yu26 zu26 st26 hQ26
        subst lu26 yu26 zu26
        obtain ⟨r26, rfl, N26q, K26q, X26q, F26q⟩ := hQ26
        have N26 := Fr.app N20 N26q
        have O26 := own_extK O19 K26q all0
        have KK26 : Keep h0 T26.heap [] := K19.trans K26q all0
        have R26 := R19.trans (CHr.keep K26q all0 R19.1)
        refine own_go (T26.setTop (mkF m 320 #[.val (.int p0), .val (.int p1), .val (.int p2), .val (.int p3), .val (.int p4), .val (.int (p0 &&& (3 : Int32))), .val (.int ((p3 &&& (255 : Int32)).toUInt32.toUInt16.toUInt32.toInt32)), .val (.ref o), .val (.ref a_INP), .unset] [(.ref r26)])) (fun t_ k_ => st26 _ k_) ?_
        refine own_go (T26.setTop (mkF m 322 #[.val (.int p0), .val (.int p1), .val (.int p2), .val (.int p3), .val (.int p4), .val (.int (p0 &&& (3 : Int32))), .val (.int ((p3 &&& (255 : Int32)).toUInt32.toUInt16.toUInt32.toInt32)), .val (.ref o), .val (.ref a_INP), .val (.ref r26)] [])) (fun t_ k_ => XS.astore X26.here hx rfl (hb hby at_320) rfl rfl (l' := #[.val (.int p0), .val (.int p1), .val (.int p2), .val (.int p3), .val (.int p4), .val (.int (p0 &&& (3 : Int32))), .val (.int ((p3 &&& (255 : Int32)).toUInt32.toUInt16.toUInt32.toInt32)), .val (.ref o), .val (.ref a_INP), .val (.ref r26)]) rfl k_) ?_
        refine own_go (T26.setTop (mkF m 324 #[.val (.int p0), .val (.int p1), .val (.int p2), .val (.int p3), .val (.int p4), .val (.int (p0 &&& (3 : Int32))), .val (.int ((p3 &&& (255 : Int32)).toUInt32.toUInt16.toUInt32.toInt32)), .val (.ref o), .val (.ref a_INP), .val (.ref r26)] [(.ref a_INP)])) (fun t_ k_ => XS.aload X26.here hx rfl (hb hby at_322) rfl rfl k_) ?_
        refine own_go (T26.setTop (mkF m 341 #[.val (.int p0), .val (.int p1), .val (.int p2), .val (.int p3), .val (.int p4), .val (.int (p0 &&& (3 : Int32))), .val (.int ((p3 &&& (255 : Int32)).toUInt32.toUInt16.toUInt32.toInt32)), .val (.ref o), .val (.ref a_INP), .val (.ref r26)] [])) (fun t_ k_ => XS.ifnonnullYes X26.here hx rfl (pc0 := 324) (pc' := 341) rfl (hb hby at_324) rfl (by decide) (by decide) k_) ?_
        refine own_go (T26.setTop (mkF m 343 #[.val (.int p0), .val (.int p1), .val (.int p2), .val (.int p3), .val (.int p4), .val (.int (p0 &&& (3 : Int32))), .val (.int ((p3 &&& (255 : Int32)).toUInt32.toUInt16.toUInt32.toInt32)), .val (.ref o), .val (.ref a_INP), .val (.ref r26)] [(.ref r26)])) (fun t_ k_ => XS.aload X26.here hx rfl (hb hby at_341) rfl rfl k_) ?_
        obtain ⟨cq27, kq27, q27a, q27b, q27c⟩ := isOf hZ rfl X26q
        obtain ⟨_, _, ⟨T27, Lu27, ku27, nu27⟩, -, X27, ⟨Lc27, hQ27, lu27, yu27, zu27⟩, st27⟩ := X26.virtualBack hx (y := (⟨"java/util/Optional", "isPresent", "()Z"⟩ : MethodName)) (z := (⟨"java/util/Optional", "isPresent", "()Z"⟩ : MethodName)) hown (mvT hZ (hw _ (List.mem_of_getElem? (i := 72) rfl))) (mvT hZ (hw _ (List.mem_of_getElem? (i := 73) rfl))) (notFace_of_selects (args := #[]) (mvT hZ (hw _ (List.mem_of_getElem? (i := 75) rfl)))) (mvT hZ (hw _ (List.mem_of_getElem? (i := 75) rfl))) (mvT hZ (hw _ (List.mem_of_getElem? (i := 74) rfl))) (by decide) (backOf (W := 0) (rm_pR l Z a0 hw [] (r26) (a_INP) T26.heap O26 F26q) hZ (hw _ (List.mem_of_getElem? (i := 76) rfl)) (hw _ (List.mem_of_getElem? (i := 22) rfl)) (by decide) (by decide)) q27a q27c (g := (mkF m 343 #[.val (.int p0), .val (.int p1), .val (.int p2), .val (.int p3), .val (.int p4), .val (.int (p0 &&& (3 : Int32))), .val (.int ((p3 &&& (255 : Int32)).toUInt32.toUInt16.toUInt32.toInt32)), .val (.ref o), .val (.ref a_INP), .val (.ref r26)] [(.ref r26)])) rfl (by rw [hml]; rfl) (Steps.refl _) (argsL := []) (rest := []) (lenOf own_pd9 rfl) rfl (by show 2 * 0 + _ ≤ _; exact Nat.le_of_eq rfl) (hb hby at_343) (fun _ _ => ⟨rfl, rfl, (by decide : 18 + 0 ≤ _), (by decide : 436 + 0 ≤ _)⟩)
        dsimp only [Pt.U, Pt.locs, Pt.cells, Pt.slots] at X27 lu27 yu27 zu27 st27 hQ27
        subst lu27 yu27 zu27
        obtain ⟨rfl, N27q, e27⟩ := hQ27
        have N27 := Fr.app N26 N27q
        refine own_go (T27.setTop (mkF m 346 #[.val (.int p0), .val (.int p1), .val (.int p2), .val (.int p3), .val (.int p4), .val (.int (p0 &&& (3 : Int32))), .val (.int ((p3 &&& (255 : Int32)).toUInt32.toUInt16.toUInt32.toInt32)), .val (.ref o), .val (.ref a_INP), .val (.ref r26)] [(.int (1 : Int32))])) (fun t_ k_ => st27.trans k_) ?_
        refine own_go (T27.setTop (mkF m 349 #[.val (.int p0), .val (.int p1), .val (.int p2), .val (.int p3), .val (.int p4), .val (.int (p0 &&& (3 : Int32))), .val (.int ((p3 &&& (255 : Int32)).toUInt32.toUInt16.toUInt32.toInt32)), .val (.ref o), .val (.ref a_INP), .val (.ref r26)] [])) (fun t_ k_ => XS.ifNo X27.here hx rfl (hb hby at_346) rfl ((if0 _ _).trans (feq (by decide : ¬ ((1 : Int32) = (0 : Int32)))).1) k_) ?_
        refine own_go (T27.setTop (mkF m 351 #[.val (.int p0), .val (.int p1), .val (.int p2), .val (.int p3), .val (.int p4), .val (.int (p0 &&& (3 : Int32))), .val (.int ((p3 &&& (255 : Int32)).toUInt32.toUInt16.toUInt32.toInt32)), .val (.ref o), .val (.ref a_INP), .val (.ref r26)] [(.ref r26)])) (fun t_ k_ => XS.aload X27.here hx rfl (hb hby at_349) rfl rfl k_) ?_
        obtain ⟨cq28, kq28, q28a, q28b, q28c⟩ := isOf hZ e27 X26q
        obtain ⟨_, _, ⟨T28, Lu28, ku28, nu28⟩, -, X28, ⟨Lc28, hQ28, lu28, yu28, zu28⟩, st28⟩ := X27.virtualBack hx (y := (⟨"java/util/Optional", "get", "()Ljava/lang/Object;"⟩ : MethodName)) (z := (⟨"java/util/Optional", "get", "()Ljava/lang/Object;"⟩ : MethodName)) hown (mvT hZ (hw _ (List.mem_of_getElem? (i := 77) rfl))) (mvT hZ (hw _ (List.mem_of_getElem? (i := 78) rfl))) (notFace_of_selects (args := #[]) (mvT hZ (hw _ (List.mem_of_getElem? (i := 80) rfl)))) (mvT hZ (hw _ (List.mem_of_getElem? (i := 80) rfl))) (mvT hZ (hw _ (List.mem_of_getElem? (i := 79) rfl))) (by decide) (backOf (W := 0) (rm_gR l Z a0 hw [] (r26) (a_INP) T26.heap O26 F26q) hZ (hw _ (List.mem_of_getElem? (i := 81) rfl)) (hw _ (List.mem_of_getElem? (i := 22) rfl)) (by decide) (by decide)) q28a q28c (g := (mkF m 351 #[.val (.int p0), .val (.int p1), .val (.int p2), .val (.int p3), .val (.int p4), .val (.int (p0 &&& (3 : Int32))), .val (.int ((p3 &&& (255 : Int32)).toUInt32.toUInt16.toUInt32.toInt32)), .val (.ref o), .val (.ref a_INP), .val (.ref r26)] [(.ref r26)])) rfl (by rw [hml]; rfl) (Steps.refl _) (argsL := []) (rest := []) (lenOf own_pd10 rfl) rfl (by show 2 * 0 + _ ≤ _; exact Nat.le_of_eq rfl) (hb hby at_351) (fun _ _ => ⟨rfl, e27, (by decide : 18 + 0 ≤ _), (by decide : 436 + 0 ≤ _)⟩)
        dsimp only [Pt.U, Pt.locs, Pt.cells, Pt.slots] at X28 lu28 yu28 zu28 st28 hQ28
        subst lu28 yu28 zu28
        obtain ⟨rfl, N28q, e28⟩ := hQ28
        have N28 := Fr.app N27 N28q
        refine own_go (T28.setTop (mkF m 354 #[.val (.int p0), .val (.int p1), .val (.int p2), .val (.int p3), .val (.int p4), .val (.int (p0 &&& (3 : Int32))), .val (.int ((p3 &&& (255 : Int32)).toUInt32.toUInt16.toUInt32.toInt32)), .val (.ref o), .val (.ref a_INP), .val (.ref r26)] [(.ref a_INP)])) (fun t_ k_ => st28.trans k_) ?_
        refine own_go (T28.setTop (mkF m 356 #[.val (.int p0), .val (.int p1), .val (.int p2), .val (.int p3), .val (.int p4), .val (.int (p0 &&& (3 : Int32))), .val (.int ((p3 &&& (255 : Int32)).toUInt32.toUInt16.toUInt32.toInt32)), .val (.ref o), .val (.ref a_INP), .val (.ref r26)] [(.ref a_INP), (.ref a_INP)])) (fun t_ k_ => XS.aload X28.here hx rfl (hb hby at_354) rfl rfl k_) ?_
        refine own_go (T28.setTop (mkF m 359 #[.val (.int p0), .val (.int p1), .val (.int p2), .val (.int p3), .val (.int p4), .val (.int (p0 &&& (3 : Int32))), .val (.int ((p3 &&& (255 : Int32)).toUInt32.toUInt16.toUInt32.toInt32)), .val (.ref o), .val (.ref a_INP), .val (.ref r26)] [])) (fun t_ k_ => Jvm.RoadKit.acmp (g := (mkF m 356 #[.val (.int p0), .val (.int p1), .val (.int p2), .val (.int p3), .val (.int p4), .val (.int (p0 &&& (3 : Int32))), .val (.int ((p3 &&& (255 : Int32)).toUInt32.toUInt16.toUInt32.toInt32)), .val (.ref o), .val (.ref a_INP), .val (.ref r26)] [(.ref a_INP), (.ref a_INP)])) X28 hx rfl rfl rfl (pc0 := 356) (pc' := 359) (same := true) rfl (hb hby at_356) rfl (decide_eq_true rfl) (by decide) (by decide) k_) ?_
        refine own_go (T28.setTop (mkF m 360 #[.val (.int p0), .val (.int p1), .val (.int p2), .val (.int p3), .val (.int p4), .val (.int (p0 &&& (3 : Int32))), .val (.int ((p3 &&& (255 : Int32)).toUInt32.toUInt16.toUInt32.toInt32)), .val (.ref o), .val (.ref a_INP), .val (.ref r26)] [(.int (1 : Int32))])) (fun t_ k_ => XS.iconst X28.here hx rfl (hb hby at_359) k_) ?_
        refine own_go (T28.setTop (mkF m 364 #[.val (.int p0), .val (.int p1), .val (.int p2), .val (.int p3), .val (.int p4), .val (.int (p0 &&& (3 : Int32))), .val (.int ((p3 &&& (255 : Int32)).toUInt32.toUInt16.toUInt32.toInt32)), .val (.ref o), .val (.ref a_INP), .val (.ref r26)] [(.int (1 : Int32))])) (fun t_ k_ => XS.goto X28.here hx rfl (pc0 := 360) (pc' := 364) rfl (hb hby at_360) (by decide) (by decide) k_) ?_
        obtain ⟨fs, hr, hrun, hended, hRW⟩ := X28.leaveW hS (by rw [show T28.heap = T26.heap from e28]; exact (Nat.le_trans hk K26q.1)) (v := some (.int (nar .boolean (1 : Int32)))) (fun h => by rw [Bd.returns] at h; cases h)
        refine ⟨_, _, retN X28 hx (t := .boolean) Bd.returns (by simp) (hb hby at_364) hr, hrun, hended, _, _, rfl, ?_, hRW.1, hRW.2.1, hRW.2.2.1, hRW.2.2.2.mono (by decide) (by decide)⟩
        show Q_law Z p0 p1 p2 p3 p4 a_OUT a__VALUES a_INP a_TAKE_COMPLETE a_OUT_text a_INP_text a_TAKE_COMPLETE_text a_OUT_text_value a_INP_text_value a_TAKE_COMPLETE_text_value a_EM k__VALUES k_OUT_text_value k_INP_text_value k_TAKE_COMPLETE_text_value cs0 h0 _ T28.heap _
        exact ⟨rfl, N28, trivial⟩
      ·
        refine own_go (T14.setTop (mkF m 278 #[.val (.int p0), .val (.int p1), .val (.int p2), .val (.int p3), .val (.int p4), .val (.int (p0 &&& (3 : Int32))), .val (.int ((p3 &&& (255 : Int32)).toUInt32.toUInt16.toUInt32.toInt32)), .val (.ref o), sl8, .unset] [(.ref o)])) (fun t_ k_ => XS.aload X14.here hx rfl (hb hby at_276) rfl rfl k_) ?_
        obtain ⟨a29, T29, h29, k29, t29, kb29, X29, e29, E29, hS, hk, hZ, hown, A29, C29, V29, B29, lt29, ltb29, CC29, Li29, ne29, st29⟩ := ldcCH (EL := consts_1) X14 hx hZ hown (hw _ (List.mem_of_getElem? (i := 101) rfl)) (fun d hd => hw d (own_sA d hd)) e14 hS hk hEW (List.mem_of_getElem? (i := 1) rfl) R13.1 (vs := (([105, 110, 112] : List Int32).map (fun c => c.toInt8.toInt32)).map Value.int) (z := 3) (by exact ⟨by decide, by rfl⟩) (by decide) (by rfl) (g := (mkF m 278 #[.val (.int p0), .val (.int p1), .val (.int p2), .val (.int p3), .val (.int p4), .val (.int (p0 &&& (3 : Int32))), .val (.int ((p3 &&& (255 : Int32)).toUInt32.toUInt16.toUInt32.toInt32)), .val (.ref o), sl8, .unset] [(.ref o)])) rfl (hb hby at_278) (n := 12) (by decide) (by decide) (by decide) (by decide)
        have K29 : Keep h0 h29 [] := K13.ext E29
        have O29 := own_ext O13 E29
        have R29 := R13.trans CC29
        refine own_go (T29.setTop (mkF m 280 #[.val (.int p0), .val (.int p1), .val (.int p2), .val (.int p3), .val (.int p4), .val (.int (p0 &&& (3 : Int32))), .val (.int ((p3 &&& (255 : Int32)).toUInt32.toUInt16.toUInt32.toInt32)), .val (.ref o), sl8, .unset] [(.ref a29), (.ref o)])) (fun t_ k_ => st29 _ k_) ?_
        have Fz31 := (Fz15.ext E29)
        have Fz32 := (Fz16.ext E29)
        have Fz33 := (Fz17.ext E29)
        have Fz34 := (Fz18.ext E29)
        obtain ⟨cq30, kq30, q30a, q30b, q30c⟩ := isOf hZ e29 Fz31
        obtain ⟨_, _, ⟨T30, Lu30, ku30, nu30⟩, -, X30, ⟨Lc30, hQ30, lu30, yu30, zu30⟩, st30⟩ := X29.virtualBack hx (y := (⟨"java/lang/String", "equals", "(Ljava/lang/Object;)Z"⟩ : MethodName)) (z := (⟨"java/lang/String", "equals", "(Ljava/lang/Object;)Z"⟩ : MethodName)) hown (mvT hZ (hw _ (List.mem_of_getElem? (i := 9) rfl))) (mvT hZ (hw _ (List.mem_of_getElem? (i := 10) rfl))) (notFace_of_selects (args := #[]) (mvT hZ (hw _ (List.mem_of_getElem? (i := 12) rfl)))) (mvT hZ (hw _ (List.mem_of_getElem? (i := 12) rfl))) (mvT hZ (hw _ (List.mem_of_getElem? (i := 11) rfl))) (by decide) (StrChars.Road.eqW (W := 0) hZ (fun d hd => hw d (own_wordsEq d hd)) (kI := 4) (hw _ (List.mem_of_getElem? (i := 3) rfl)) Fz31 Fz32 Fz33 Fz34 hcd hbd hl A29 V29 C29 B29 (ds := ([105, 110, 112] : List Int32)) (own_cod ([105, 110, 112] : List Int32) own_lit_WorkloadNamedPinLaw_10) (own_up _ own_lit_WorkloadNamedPinLaw_10) (by decide) (S_CS.ext O29) n_CS (by decide) (by decide)) q30a q30c (g := (mkF m 280 #[.val (.int p0), .val (.int p1), .val (.int p2), .val (.int p3), .val (.int p4), .val (.int (p0 &&& (3 : Int32))), .val (.int ((p3 &&& (255 : Int32)).toUInt32.toUInt16.toUInt32.toInt32)), .val (.ref o), sl8, .unset] [(.ref a29), (.ref o)])) rfl (by rw [hml]; rfl) (Steps.refl _) (argsL := [(.ref a29)]) (rest := []) (lenOf own_pd4 rfl) rfl (by show 2 * 0 + _ ≤ _; exact Nat.le_of_eq rfl) (hb hby at_280) (fun _ _ => ⟨rfl, e29, (by decide : 16 + 0 ≤ _), (by decide : 432 + 0 ≤ _)⟩)
        dsimp only [Pt.U, Pt.locs, Pt.cells, Pt.slots] at X30 lu30 yu30 zu30 st30 hQ30
        subst lu30 yu30 zu30
        obtain ⟨hcase30, rfl, e30⟩ := hQ30
        have N30q : Fr Z.heap.size ([] : List Loc) := Fr.nil _
        have N30 := Fr.app N14 N30q
        have hv30 := hcase30.elim (fun q => absurd q.2 (hq_INP)) (fun q => q.1)
        subst hv30
        refine own_go (T30.setTop (mkF m 283 #[.val (.int p0), .val (.int p1), .val (.int p2), .val (.int p3), .val (.int p4), .val (.int (p0 &&& (3 : Int32))), .val (.int ((p3 &&& (255 : Int32)).toUInt32.toUInt16.toUInt32.toInt32)), .val (.ref o), sl8, .unset] [(.int (0 : Int32))])) (fun t_ k_ => st30.trans k_) ?_
        refine own_go (T30.setTop (mkF m 294 #[.val (.int p0), .val (.int p1), .val (.int p2), .val (.int p3), .val (.int p4), .val (.int (p0 &&& (3 : Int32))), .val (.int ((p3 &&& (255 : Int32)).toUInt32.toUInt16.toUInt32.toInt32)), .val (.ref o), sl8, .unset] [])) (fun t_ k_ => XS.ifYes X30.here hx rfl (pc0 := 283) (pc' := 294) rfl (hb hby at_283) rfl ((if0 _ _).trans (teq (by decide : (0 : Int32) = (0 : Int32))).1) (by decide) (by decide) k_) ?_
        by_cases hq_TAKE_COMPLETE : cs = ([116, 97, 107, 101, 45, 99, 111, 109, 112, 108, 101, 116, 101] : List Int32)
        ·
          refine own_go (T30.setTop (mkF m 296 #[.val (.int p0), .val (.int p1), .val (.int p2), .val (.int p3), .val (.int p4), .val (.int (p0 &&& (3 : Int32))), .val (.int ((p3 &&& (255 : Int32)).toUInt32.toUInt16.toUInt32.toInt32)), .val (.ref o), sl8, .unset] [(.ref o)])) (fun t_ k_ => XS.aload X30.here hx rfl (hb hby at_294) rfl rfl k_) ?_
          obtain ⟨a35, T35, h35, k35, t35, kb35, X35, e35, E35, hS, hk, hZ, hown, A35, C35, V35, B35, lt35, ltb35, CC35, Li35, ne35, st35⟩ := ldcCH (EL := consts_1) X30 hx hZ hown (hw _ (List.mem_of_getElem? (i := 102) rfl)) (fun d hd => hw d (own_sA d hd)) e30 hS hk hEW (List.mem_of_getElem? (i := 2) rfl) R29.1 (vs := (([116, 97, 107, 101, 45, 99, 111, 109, 112, 108, 101, 116, 101] : List Int32).map (fun c => c.toInt8.toInt32)).map Value.int) (z := 13) (by exact ⟨by decide, by rfl⟩) (by decide) (by rfl) (g := (mkF m 296 #[.val (.int p0), .val (.int p1), .val (.int p2), .val (.int p3), .val (.int p4), .val (.int (p0 &&& (3 : Int32))), .val (.int ((p3 &&& (255 : Int32)).toUInt32.toUInt16.toUInt32.toInt32)), .val (.ref o), sl8, .unset] [(.ref o)])) rfl (hb hby at_296) (n := 52) (by decide) (by decide) (by decide) (by decide)
          have K35 : Keep h0 h35 [] := K29.ext E35
          have O35 := own_ext O29 E35
          have R35 := R29.trans CC35
          refine own_go (T35.setTop (mkF m 298 #[.val (.int p0), .val (.int p1), .val (.int p2), .val (.int p3), .val (.int p4), .val (.int (p0 &&& (3 : Int32))), .val (.int ((p3 &&& (255 : Int32)).toUInt32.toUInt16.toUInt32.toInt32)), .val (.ref o), sl8, .unset] [(.ref a35), (.ref o)])) (fun t_ k_ => st35 _ k_) ?_
          have Fz37 := (Fz31.ext E35)
          have Fz38 := (Fz32.ext E35)
          have Fz39 := (Fz33.ext E35)
          have Fz40 := (Fz34.ext E35)
          obtain ⟨cq36, kq36, q36a, q36b, q36c⟩ := isOf hZ e35 Fz37
          obtain ⟨_, _, ⟨T36, Lu36, ku36, nu36⟩, -, X36, ⟨Lc36, hQ36, lu36, yu36, zu36⟩, st36⟩ := X35.virtualBack hx (y := (⟨"java/lang/String", "equals", "(Ljava/lang/Object;)Z"⟩ : MethodName)) (z := (⟨"java/lang/String", "equals", "(Ljava/lang/Object;)Z"⟩ : MethodName)) hown (mvT hZ (hw _ (List.mem_of_getElem? (i := 9) rfl))) (mvT hZ (hw _ (List.mem_of_getElem? (i := 10) rfl))) (notFace_of_selects (args := #[]) (mvT hZ (hw _ (List.mem_of_getElem? (i := 12) rfl)))) (mvT hZ (hw _ (List.mem_of_getElem? (i := 12) rfl))) (mvT hZ (hw _ (List.mem_of_getElem? (i := 11) rfl))) (by decide) (StrChars.Road.eqW (W := 0) hZ (fun d hd => hw d (own_wordsEq d hd)) (kI := 4) (hw _ (List.mem_of_getElem? (i := 3) rfl)) Fz37 Fz38 Fz39 Fz40 hcd hbd hl A35 V35 C35 B35 (ds := ([116, 97, 107, 101, 45, 99, 111, 109, 112, 108, 101, 116, 101] : List Int32)) (own_cod ([116, 97, 107, 101, 45, 99, 111, 109, 112, 108, 101, 116, 101] : List Int32) own_lit_WorkloadNamedPinLaw_12) (own_up _ own_lit_WorkloadNamedPinLaw_12) (by decide) (S_CS.ext O35) n_CS (by decide) (by decide)) q36a q36c (g := (mkF m 298 #[.val (.int p0), .val (.int p1), .val (.int p2), .val (.int p3), .val (.int p4), .val (.int (p0 &&& (3 : Int32))), .val (.int ((p3 &&& (255 : Int32)).toUInt32.toUInt16.toUInt32.toInt32)), .val (.ref o), sl8, .unset] [(.ref a35), (.ref o)])) rfl (by rw [hml]; rfl) (Steps.refl _) (argsL := [(.ref a35)]) (rest := []) (lenOf own_pd4 rfl) rfl (by show 2 * 0 + _ ≤ _; exact Nat.le_of_eq rfl) (hb hby at_298) (fun _ _ => ⟨rfl, e35, (by decide : 18 + 0 ≤ _), (by decide : 488 + 0 ≤ _)⟩)
          dsimp only [Pt.U, Pt.locs, Pt.cells, Pt.slots] at X36 lu36 yu36 zu36 st36 hQ36
          subst lu36 yu36 zu36
          obtain ⟨hcase36, rfl, e36⟩ := hQ36
          have N36q : Fr Z.heap.size ([] : List Loc) := Fr.nil _
          have N36 := Fr.app N30 N36q
          have hv36 := hcase36.elim (fun q => q.1) (fun q => absurd (hq_TAKE_COMPLETE) q.2)
          subst hv36
          refine own_go (T36.setTop (mkF m 301 #[.val (.int p0), .val (.int p1), .val (.int p2), .val (.int p3), .val (.int p4), .val (.int (p0 &&& (3 : Int32))), .val (.int ((p3 &&& (255 : Int32)).toUInt32.toUInt16.toUInt32.toInt32)), .val (.ref o), sl8, .unset] [(.int (1 : Int32))])) (fun t_ k_ => st36.trans k_) ?_
          refine own_go (T36.setTop (mkF m 304 #[.val (.int p0), .val (.int p1), .val (.int p2), .val (.int p3), .val (.int p4), .val (.int (p0 &&& (3 : Int32))), .val (.int ((p3 &&& (255 : Int32)).toUInt32.toUInt16.toUInt32.toInt32)), .val (.ref o), sl8, .unset] [])) (fun t_ k_ => XS.ifNo X36.here hx rfl (hb hby at_301) rfl ((if0 _ _).trans (feq (by decide : ¬ ((1 : Int32) = (0 : Int32)))).1) k_) ?_
          obtain ⟨T41, X41, e41, st41⟩ := getS2 X36 hx hZ hown (host := "") (Or.inl (hw _ (List.mem_of_getElem? (i := 109) rfl))) Via.refl e36 (S_TAKE_COMPLETE.ext O35) (g := (mkF m 304 #[.val (.int p0), .val (.int p1), .val (.int p2), .val (.int p3), .val (.int p4), .val (.int (p0 &&& (3 : Int32))), .val (.int ((p3 &&& (255 : Int32)).toUInt32.toUInt16.toUInt32.toInt32)), .val (.ref o), sl8, .unset] [])) rfl (hb hby at_304)
          refine own_go (T41.setTop (mkF m 307 #[.val (.int p0), .val (.int p1), .val (.int p2), .val (.int p3), .val (.int p4), .val (.int (p0 &&& (3 : Int32))), .val (.int ((p3 &&& (255 : Int32)).toUInt32.toUInt16.toUInt32.toInt32)), .val (.ref o), sl8, .unset] [(.ref a_TAKE_COMPLETE)])) (fun t_ k_ => st41 _ k_) ?_
          refine own_go (T41.setTop (mkF m 309 #[.val (.int p0), .val (.int p1), .val (.int p2), .val (.int p3), .val (.int p4), .val (.int (p0 &&& (3 : Int32))), .val (.int ((p3 &&& (255 : Int32)).toUInt32.toUInt16.toUInt32.toInt32)), .val (.ref o), .val (.ref a_TAKE_COMPLETE), .unset] [])) (fun t_ k_ => XS.astore X41.here hx rfl (hb hby at_307) rfl rfl (l' := #[.val (.int p0), .val (.int p1), .val (.int p2), .val (.int p3), .val (.int p4), .val (.int (p0 &&& (3 : Int32))), .val (.int ((p3 &&& (255 : Int32)).toUInt32.toUInt16.toUInt32.toInt32)), .val (.ref o), .val (.ref a_TAKE_COMPLETE), .unset]) (own_st1 rfl rfl hsl8) k_) ?_
          refine own_go (T41.setTop (mkF m 315 #[.val (.int p0), .val (.int p1), .val (.int p2), .val (.int p3), .val (.int p4), .val (.int (p0 &&& (3 : Int32))), .val (.int ((p3 &&& (255 : Int32)).toUInt32.toUInt16.toUInt32.toInt32)), .val (.ref o), .val (.ref a_TAKE_COMPLETE), .unset] [])) (fun t_ k_ => XS.goto X41.here hx rfl (pc0 := 309) (pc' := 315) rfl (hb hby at_309) (by decide) (by decide) k_) ?_
          refine own_go (T41.setTop (mkF m 317 #[.val (.int p0), .val (.int p1), .val (.int p2), .val (.int p3), .val (.int p4), .val (.int (p0 &&& (3 : Int32))), .val (.int ((p3 &&& (255 : Int32)).toUInt32.toUInt16.toUInt32.toInt32)), .val (.ref o), .val (.ref a_TAKE_COMPLETE), .unset] [(.ref o)])) (fun t_ k_ => XS.aload X41.here hx rfl (hb hby at_315) rfl rfl k_) ?_
          obtain ⟨_, _, ⟨T42, Lu42, ku42, nu42⟩, -, X42, ⟨Lc42, hQ42, lu42, yu42, zu42⟩, st42⟩ := Jvm.LawKit.callS X41 hx (y := (⟨"com/example/tuplebag/tuplebag/bench/Workload", "named", "(Ljava/lang/String;)Ljava/util/Optional;"⟩ : MethodName)) hown (mvT hZ (hw _ (List.mem_of_getElem? (i := 17) rfl))) (mvT hZ (hw _ (List.mem_of_getElem? (i := 18) rfl))) (mvT hZ (hw _ (List.mem_of_getElem? (i := 15) rfl))) (mvT hZ (hw _ (List.mem_of_getElem? (i := 19) rfl))) (by decide) (backOf (W := 0) (rm_nd_TAKE_COMPLETE l Z a0 hw [] (o) (t1) (kb) (cs) (a_OUT) (a__VALUES) (a_INP) (a_TAKE_COMPLETE) (a_OUT_text) (a_INP_text) (a_TAKE_COMPLETE_text) (a_OUT_text_value) (a_INP_text_value) (a_TAKE_COMPLETE_text_value) (a_EM) (k__VALUES) (k_OUT_text_value) (k_INP_text_value) (k_TAKE_COMPLETE_text_value) (cs0) h35 O35 w Fz37 Fz38 Fz39 Fz40 hp hl hq_TAKE_COMPLETE) hZ (hw _ (List.mem_of_getElem? (i := 19) rfl)) (hw _ (List.mem_of_getElem? (i := 15) rfl)) (by decide) (by decide)) (g := (mkF m 317 #[.val (.int p0), .val (.int p1), .val (.int p2), .val (.int p3), .val (.int p4), .val (.int (p0 &&& (3 : Int32))), .val (.int ((p3 &&& (255 : Int32)).toUInt32.toUInt16.toUInt32.toInt32)), .val (.ref o), .val (.ref a_TAKE_COMPLETE), .unset] [(.ref o)])) rfl (by rw [hml]; rfl) (argsL := [(.ref o)]) (rest := []) (lenOf own_pd8 rfl) rfl (by show 2 * 0 + _ ≤ _; exact Nat.le_of_eq rfl) (hb hby at_317) (fun _ _ => ⟨rfl, e41, (by decide : 18 + 2 ≤ _), (by decide : 488 + 4 ≤ _)⟩)
          dsimp only [Pt.U, Pt.locs, Pt.cells, Pt.slots] at X42 lu42 yu42 zu42 st42 hQ42
          subst lu42 yu42 zu42
          obtain ⟨r42, rfl, N42q, K42q, X42q, F42q⟩ := hQ42
          have N42 := Fr.app N36 N42q
          have O42 := own_extK O35 K42q all0
          have KK42 : Keep h0 T42.heap [] := K35.trans K42q all0
          have R42 := R35.trans (CHr.keep K42q all0 R35.1)
          refine own_go (T42.setTop (mkF m 320 #[.val (.int p0), .val (.int p1), .val (.int p2), .val (.int p3), .val (.int p4), .val (.int (p0 &&& (3 : Int32))), .val (.int ((p3 &&& (255 : Int32)).toUInt32.toUInt16.toUInt32.toInt32)), .val (.ref o), .val (.ref a_TAKE_COMPLETE), .unset] [(.ref r42)])) (fun t_ k_ => st42 _ k_) ?_
          refine own_go (T42.setTop (mkF m 322 #[.val (.int p0), .val (.int p1), .val (.int p2), .val (.int p3), .val (.int p4), .val (.int (p0 &&& (3 : Int32))), .val (.int ((p3 &&& (255 : Int32)).toUInt32.toUInt16.toUInt32.toInt32)), .val (.ref o), .val (.ref a_TAKE_COMPLETE), .val (.ref r42)] [])) (fun t_ k_ => XS.astore X42.here hx rfl (hb hby at_320) rfl rfl (l' := #[.val (.int p0), .val (.int p1), .val (.int p2), .val (.int p3), .val (.int p4), .val (.int (p0 &&& (3 : Int32))), .val (.int ((p3 &&& (255 : Int32)).toUInt32.toUInt16.toUInt32.toInt32)), .val (.ref o), .val (.ref a_TAKE_COMPLETE), .val (.ref r42)]) rfl k_) ?_
          refine own_go (T42.setTop (mkF m 324 #[.val (.int p0), .val (.int p1), .val (.int p2), .val (.int p3), .val (.int p4), .val (.int (p0 &&& (3 : Int32))), .val (.int ((p3 &&& (255 : Int32)).toUInt32.toUInt16.toUInt32.toInt32)), .val (.ref o), .val (.ref a_TAKE_COMPLETE), .val (.ref r42)] [(.ref a_TAKE_COMPLETE)])) (fun t_ k_ => XS.aload X42.here hx rfl (hb hby at_322) rfl rfl k_) ?_
          refine own_go (T42.setTop (mkF m 341 #[.val (.int p0), .val (.int p1), .val (.int p2), .val (.int p3), .val (.int p4), .val (.int (p0 &&& (3 : Int32))), .val (.int ((p3 &&& (255 : Int32)).toUInt32.toUInt16.toUInt32.toInt32)), .val (.ref o), .val (.ref a_TAKE_COMPLETE), .val (.ref r42)] [])) (fun t_ k_ => XS.ifnonnullYes X42.here hx rfl (pc0 := 324) (pc' := 341) rfl (hb hby at_324) rfl (by decide) (by decide) k_) ?_
          refine own_go (T42.setTop (mkF m 343 #[.val (.int p0), .val (.int p1), .val (.int p2), .val (.int p3), .val (.int p4), .val (.int (p0 &&& (3 : Int32))), .val (.int ((p3 &&& (255 : Int32)).toUInt32.toUInt16.toUInt32.toInt32)), .val (.ref o), .val (.ref a_TAKE_COMPLETE), .val (.ref r42)] [(.ref r42)])) (fun t_ k_ => XS.aload X42.here hx rfl (hb hby at_341) rfl rfl k_) ?_
          obtain ⟨cq43, kq43, q43a, q43b, q43c⟩ := isOf hZ rfl X42q
          obtain ⟨_, _, ⟨T43, Lu43, ku43, nu43⟩, -, X43, ⟨Lc43, hQ43, lu43, yu43, zu43⟩, st43⟩ := X42.virtualBack hx (y := (⟨"java/util/Optional", "isPresent", "()Z"⟩ : MethodName)) (z := (⟨"java/util/Optional", "isPresent", "()Z"⟩ : MethodName)) hown (mvT hZ (hw _ (List.mem_of_getElem? (i := 72) rfl))) (mvT hZ (hw _ (List.mem_of_getElem? (i := 73) rfl))) (notFace_of_selects (args := #[]) (mvT hZ (hw _ (List.mem_of_getElem? (i := 75) rfl)))) (mvT hZ (hw _ (List.mem_of_getElem? (i := 75) rfl))) (mvT hZ (hw _ (List.mem_of_getElem? (i := 74) rfl))) (by decide) (backOf (W := 0) (rm_pR l Z a0 hw [] (r42) (a_TAKE_COMPLETE) T42.heap O42 F42q) hZ (hw _ (List.mem_of_getElem? (i := 76) rfl)) (hw _ (List.mem_of_getElem? (i := 22) rfl)) (by decide) (by decide)) q43a q43c (g := (mkF m 343 #[.val (.int p0), .val (.int p1), .val (.int p2), .val (.int p3), .val (.int p4), .val (.int (p0 &&& (3 : Int32))), .val (.int ((p3 &&& (255 : Int32)).toUInt32.toUInt16.toUInt32.toInt32)), .val (.ref o), .val (.ref a_TAKE_COMPLETE), .val (.ref r42)] [(.ref r42)])) rfl (by rw [hml]; rfl) (Steps.refl _) (argsL := []) (rest := []) (lenOf own_pd9 rfl) rfl (by show 2 * 0 + _ ≤ _; exact Nat.le_of_eq rfl) (hb hby at_343) (fun _ _ => ⟨rfl, rfl, (by decide : 20 + 0 ≤ _), (by decide : 492 + 0 ≤ _)⟩)
          dsimp only [Pt.U, Pt.locs, Pt.cells, Pt.slots] at X43 lu43 yu43 zu43 st43 hQ43
          subst lu43 yu43 zu43
          obtain ⟨rfl, N43q, e43⟩ := hQ43
          have N43 := Fr.app N42 N43q
          refine own_go (T43.setTop (mkF m 346 #[.val (.int p0), .val (.int p1), .val (.int p2), .val (.int p3), .val (.int p4), .val (.int (p0 &&& (3 : Int32))), .val (.int ((p3 &&& (255 : Int32)).toUInt32.toUInt16.toUInt32.toInt32)), .val (.ref o), .val (.ref a_TAKE_COMPLETE), .val (.ref r42)] [(.int (1 : Int32))])) (fun t_ k_ => st43.trans k_) ?_
          refine own_go (T43.setTop (mkF m 349 #[.val (.int p0), .val (.int p1), .val (.int p2), .val (.int p3), .val (.int p4), .val (.int (p0 &&& (3 : Int32))), .val (.int ((p3 &&& (255 : Int32)).toUInt32.toUInt16.toUInt32.toInt32)), .val (.ref o), .val (.ref a_TAKE_COMPLETE), .val (.ref r42)] [])) (fun t_ k_ => XS.ifNo X43.here hx rfl (hb hby at_346) rfl ((if0 _ _).trans (feq (by decide : ¬ ((1 : Int32) = (0 : Int32)))).1) k_) ?_
          refine own_go (T43.setTop (mkF m 351 #[.val (.int p0), .val (.int p1), .val (.int p2), .val (.int p3), .val (.int p4), .val (.int (p0 &&& (3 : Int32))), .val (.int ((p3 &&& (255 : Int32)).toUInt32.toUInt16.toUInt32.toInt32)), .val (.ref o), .val (.ref a_TAKE_COMPLETE), .val (.ref r42)] [(.ref r42)])) (fun t_ k_ => XS.aload X43.here hx rfl (hb hby at_349) rfl rfl k_) ?_
          obtain ⟨cq44, kq44, q44a, q44b, q44c⟩ := isOf hZ e43 X42q
          obtain ⟨_, _, ⟨T44, Lu44, ku44, nu44⟩, -, X44, ⟨Lc44, hQ44, lu44, yu44, zu44⟩, st44⟩ := X43.virtualBack hx (y := (⟨"java/util/Optional", "get", "()Ljava/lang/Object;"⟩ : MethodName)) (z := (⟨"java/util/Optional", "get", "()Ljava/lang/Object;"⟩ : MethodName)) hown (mvT hZ (hw _ (List.mem_of_getElem? (i := 77) rfl))) (mvT hZ (hw _ (List.mem_of_getElem? (i := 78) rfl))) (notFace_of_selects (args := #[]) (mvT hZ (hw _ (List.mem_of_getElem? (i := 80) rfl)))) (mvT hZ (hw _ (List.mem_of_getElem? (i := 80) rfl))) (mvT hZ (hw _ (List.mem_of_getElem? (i := 79) rfl))) (by decide) (backOf (W := 0) (rm_gR l Z a0 hw [] (r42) (a_TAKE_COMPLETE) T42.heap O42 F42q) hZ (hw _ (List.mem_of_getElem? (i := 81) rfl)) (hw _ (List.mem_of_getElem? (i := 22) rfl)) (by decide) (by decide)) q44a q44c (g := (mkF m 351 #[.val (.int p0), .val (.int p1), .val (.int p2), .val (.int p3), .val (.int p4), .val (.int (p0 &&& (3 : Int32))), .val (.int ((p3 &&& (255 : Int32)).toUInt32.toUInt16.toUInt32.toInt32)), .val (.ref o), .val (.ref a_TAKE_COMPLETE), .val (.ref r42)] [(.ref r42)])) rfl (by rw [hml]; rfl) (Steps.refl _) (argsL := []) (rest := []) (lenOf own_pd10 rfl) rfl (by show 2 * 0 + _ ≤ _; exact Nat.le_of_eq rfl) (hb hby at_351) (fun _ _ => ⟨rfl, e43, (by decide : 20 + 0 ≤ _), (by decide : 492 + 0 ≤ _)⟩)
          dsimp only [Pt.U, Pt.locs, Pt.cells, Pt.slots] at X44 lu44 yu44 zu44 st44 hQ44
          subst lu44 yu44 zu44
          obtain ⟨rfl, N44q, e44⟩ := hQ44
          have N44 := Fr.app N43 N44q
          refine own_go (T44.setTop (mkF m 354 #[.val (.int p0), .val (.int p1), .val (.int p2), .val (.int p3), .val (.int p4), .val (.int (p0 &&& (3 : Int32))), .val (.int ((p3 &&& (255 : Int32)).toUInt32.toUInt16.toUInt32.toInt32)), .val (.ref o), .val (.ref a_TAKE_COMPLETE), .val (.ref r42)] [(.ref a_TAKE_COMPLETE)])) (fun t_ k_ => st44.trans k_) ?_
          refine own_go (T44.setTop (mkF m 356 #[.val (.int p0), .val (.int p1), .val (.int p2), .val (.int p3), .val (.int p4), .val (.int (p0 &&& (3 : Int32))), .val (.int ((p3 &&& (255 : Int32)).toUInt32.toUInt16.toUInt32.toInt32)), .val (.ref o), .val (.ref a_TAKE_COMPLETE), .val (.ref r42)] [(.ref a_TAKE_COMPLETE), (.ref a_TAKE_COMPLETE)])) (fun t_ k_ => XS.aload X44.here hx rfl (hb hby at_354) rfl rfl k_) ?_
          refine own_go (T44.setTop (mkF m 359 #[.val (.int p0), .val (.int p1), .val (.int p2), .val (.int p3), .val (.int p4), .val (.int (p0 &&& (3 : Int32))), .val (.int ((p3 &&& (255 : Int32)).toUInt32.toUInt16.toUInt32.toInt32)), .val (.ref o), .val (.ref a_TAKE_COMPLETE), .val (.ref r42)] [])) (fun t_ k_ => Jvm.RoadKit.acmp (g := (mkF m 356 #[.val (.int p0), .val (.int p1), .val (.int p2), .val (.int p3), .val (.int p4), .val (.int (p0 &&& (3 : Int32))), .val (.int ((p3 &&& (255 : Int32)).toUInt32.toUInt16.toUInt32.toInt32)), .val (.ref o), .val (.ref a_TAKE_COMPLETE), .val (.ref r42)] [(.ref a_TAKE_COMPLETE), (.ref a_TAKE_COMPLETE)])) X44 hx rfl rfl rfl (pc0 := 356) (pc' := 359) (same := true) rfl (hb hby at_356) rfl (decide_eq_true rfl) (by decide) (by decide) k_) ?_
          refine own_go (T44.setTop (mkF m 360 #[.val (.int p0), .val (.int p1), .val (.int p2), .val (.int p3), .val (.int p4), .val (.int (p0 &&& (3 : Int32))), .val (.int ((p3 &&& (255 : Int32)).toUInt32.toUInt16.toUInt32.toInt32)), .val (.ref o), .val (.ref a_TAKE_COMPLETE), .val (.ref r42)] [(.int (1 : Int32))])) (fun t_ k_ => XS.iconst X44.here hx rfl (hb hby at_359) k_) ?_
          refine own_go (T44.setTop (mkF m 364 #[.val (.int p0), .val (.int p1), .val (.int p2), .val (.int p3), .val (.int p4), .val (.int (p0 &&& (3 : Int32))), .val (.int ((p3 &&& (255 : Int32)).toUInt32.toUInt16.toUInt32.toInt32)), .val (.ref o), .val (.ref a_TAKE_COMPLETE), .val (.ref r42)] [(.int (1 : Int32))])) (fun t_ k_ => XS.goto X44.here hx rfl (pc0 := 360) (pc' := 364) rfl (hb hby at_360) (by decide) (by decide) k_) ?_
          obtain ⟨fs, hr, hrun, hended, hRW⟩ := X44.leaveW hS (by rw [show T44.heap = T42.heap from e44]; exact (Nat.le_trans hk K42q.1)) (v := some (.int (nar .boolean (1 : Int32)))) (fun h => by rw [Bd.returns] at h; cases h)
          refine ⟨_, _, retN X44 hx (t := .boolean) Bd.returns (by simp) (hb hby at_364) hr, hrun, hended, _, _, rfl, ?_, hRW.1, hRW.2.1, hRW.2.2.1, hRW.2.2.2.mono (by decide) (by decide)⟩
          show Q_law Z p0 p1 p2 p3 p4 a_OUT a__VALUES a_INP a_TAKE_COMPLETE a_OUT_text a_INP_text a_TAKE_COMPLETE_text a_OUT_text_value a_INP_text_value a_TAKE_COMPLETE_text_value a_EM k__VALUES k_OUT_text_value k_INP_text_value k_TAKE_COMPLETE_text_value cs0 h0 _ T44.heap _
          exact ⟨rfl, N44, trivial⟩
        ·
          refine own_go (T30.setTop (mkF m 296 #[.val (.int p0), .val (.int p1), .val (.int p2), .val (.int p3), .val (.int p4), .val (.int (p0 &&& (3 : Int32))), .val (.int ((p3 &&& (255 : Int32)).toUInt32.toUInt16.toUInt32.toInt32)), .val (.ref o), sl8, .unset] [(.ref o)])) (fun t_ k_ => XS.aload X30.here hx rfl (hb hby at_294) rfl rfl k_) ?_
          obtain ⟨a45, T45, h45, k45, t45, kb45, X45, e45, E45, hS, hk, hZ, hown, A45, C45, V45, B45, lt45, ltb45, CC45, Li45, ne45, st45⟩ := ldcCH (EL := consts_1) X30 hx hZ hown (hw _ (List.mem_of_getElem? (i := 102) rfl)) (fun d hd => hw d (own_sA d hd)) e30 hS hk hEW (List.mem_of_getElem? (i := 2) rfl) R29.1 (vs := (([116, 97, 107, 101, 45, 99, 111, 109, 112, 108, 101, 116, 101] : List Int32).map (fun c => c.toInt8.toInt32)).map Value.int) (z := 13) (by exact ⟨by decide, by rfl⟩) (by decide) (by rfl) (g := (mkF m 296 #[.val (.int p0), .val (.int p1), .val (.int p2), .val (.int p3), .val (.int p4), .val (.int (p0 &&& (3 : Int32))), .val (.int ((p3 &&& (255 : Int32)).toUInt32.toUInt16.toUInt32.toInt32)), .val (.ref o), sl8, .unset] [(.ref o)])) rfl (hb hby at_296) (n := 52) (by decide) (by decide) (by decide) (by decide)
          have K45 : Keep h0 h45 [] := K29.ext E45
          have O45 := own_ext O29 E45
          have R45 := R29.trans CC45
          refine own_go (T45.setTop (mkF m 298 #[.val (.int p0), .val (.int p1), .val (.int p2), .val (.int p3), .val (.int p4), .val (.int (p0 &&& (3 : Int32))), .val (.int ((p3 &&& (255 : Int32)).toUInt32.toUInt16.toUInt32.toInt32)), .val (.ref o), sl8, .unset] [(.ref a45), (.ref o)])) (fun t_ k_ => st45 _ k_) ?_
          have Fz47 := (Fz31.ext E45)
          have Fz48 := (Fz32.ext E45)
          have Fz49 := (Fz33.ext E45)
          have Fz50 := (Fz34.ext E45)
          obtain ⟨cq46, kq46, q46a, q46b, q46c⟩ := isOf hZ e45 Fz47
          obtain ⟨_, _, ⟨T46, Lu46, ku46, nu46⟩, -, X46, ⟨Lc46, hQ46, lu46, yu46, zu46⟩, st46⟩ := X45.virtualBack hx (y := (⟨"java/lang/String", "equals", "(Ljava/lang/Object;)Z"⟩ : MethodName)) (z := (⟨"java/lang/String", "equals", "(Ljava/lang/Object;)Z"⟩ : MethodName)) hown (mvT hZ (hw _ (List.mem_of_getElem? (i := 9) rfl))) (mvT hZ (hw _ (List.mem_of_getElem? (i := 10) rfl))) (notFace_of_selects (args := #[]) (mvT hZ (hw _ (List.mem_of_getElem? (i := 12) rfl)))) (mvT hZ (hw _ (List.mem_of_getElem? (i := 12) rfl))) (mvT hZ (hw _ (List.mem_of_getElem? (i := 11) rfl))) (by decide) (StrChars.Road.eqW (W := 0) hZ (fun d hd => hw d (own_wordsEq d hd)) (kI := 4) (hw _ (List.mem_of_getElem? (i := 3) rfl)) Fz47 Fz48 Fz49 Fz50 hcd hbd hl A45 V45 C45 B45 (ds := ([116, 97, 107, 101, 45, 99, 111, 109, 112, 108, 101, 116, 101] : List Int32)) (own_cod ([116, 97, 107, 101, 45, 99, 111, 109, 112, 108, 101, 116, 101] : List Int32) own_lit_WorkloadNamedPinLaw_12) (own_up _ own_lit_WorkloadNamedPinLaw_12) (by decide) (S_CS.ext O45) n_CS (by decide) (by decide)) q46a q46c (g := (mkF m 298 #[.val (.int p0), .val (.int p1), .val (.int p2), .val (.int p3), .val (.int p4), .val (.int (p0 &&& (3 : Int32))), .val (.int ((p3 &&& (255 : Int32)).toUInt32.toUInt16.toUInt32.toInt32)), .val (.ref o), sl8, .unset] [(.ref a45), (.ref o)])) rfl (by rw [hml]; rfl) (Steps.refl _) (argsL := [(.ref a45)]) (rest := []) (lenOf own_pd4 rfl) rfl (by show 2 * 0 + _ ≤ _; exact Nat.le_of_eq rfl) (hb hby at_298) (fun _ _ => ⟨rfl, e45, (by decide : 18 + 0 ≤ _), (by decide : 488 + 0 ≤ _)⟩)
          dsimp only [Pt.U, Pt.locs, Pt.cells, Pt.slots] at X46 lu46 yu46 zu46 st46 hQ46
          subst lu46 yu46 zu46
          obtain ⟨hcase46, rfl, e46⟩ := hQ46
          have N46q : Fr Z.heap.size ([] : List Loc) := Fr.nil _
          have N46 := Fr.app N30 N46q
          have hv46 := hcase46.elim (fun q => absurd q.2 (hq_TAKE_COMPLETE)) (fun q => q.1)
          subst hv46
          refine own_go (T46.setTop (mkF m 301 #[.val (.int p0), .val (.int p1), .val (.int p2), .val (.int p3), .val (.int p4), .val (.int (p0 &&& (3 : Int32))), .val (.int ((p3 &&& (255 : Int32)).toUInt32.toUInt16.toUInt32.toInt32)), .val (.ref o), sl8, .unset] [(.int (0 : Int32))])) (fun t_ k_ => st46.trans k_) ?_
          refine own_go (T46.setTop (mkF m 312 #[.val (.int p0), .val (.int p1), .val (.int p2), .val (.int p3), .val (.int p4), .val (.int (p0 &&& (3 : Int32))), .val (.int ((p3 &&& (255 : Int32)).toUInt32.toUInt16.toUInt32.toInt32)), .val (.ref o), sl8, .unset] [])) (fun t_ k_ => XS.ifYes X46.here hx rfl (pc0 := 301) (pc' := 312) rfl (hb hby at_301) rfl ((if0 _ _).trans (teq (by decide : (0 : Int32) = (0 : Int32))).1) (by decide) (by decide) k_) ?_
          refine own_go (T46.setTop (mkF m 313 #[.val (.int p0), .val (.int p1), .val (.int p2), .val (.int p3), .val (.int p4), .val (.int (p0 &&& (3 : Int32))), .val (.int ((p3 &&& (255 : Int32)).toUInt32.toUInt16.toUInt32.toInt32)), .val (.ref o), sl8, .unset] [.null])) (fun t_ k_ => XS.aconstNull X46.here hx rfl (hb hby at_312) k_) ?_
          refine own_go (T46.setTop (mkF m 315 #[.val (.int p0), .val (.int p1), .val (.int p2), .val (.int p3), .val (.int p4), .val (.int (p0 &&& (3 : Int32))), .val (.int ((p3 &&& (255 : Int32)).toUInt32.toUInt16.toUInt32.toInt32)), .val (.ref o), .val .null, .unset] [])) (fun t_ k_ => XS.astore X46.here hx rfl (hb hby at_313) rfl rfl (l' := #[.val (.int p0), .val (.int p1), .val (.int p2), .val (.int p3), .val (.int p4), .val (.int (p0 &&& (3 : Int32))), .val (.int ((p3 &&& (255 : Int32)).toUInt32.toUInt16.toUInt32.toInt32)), .val (.ref o), .val .null, .unset]) (own_st1 rfl rfl hsl8) k_) ?_
          refine own_go (T46.setTop (mkF m 317 #[.val (.int p0), .val (.int p1), .val (.int p2), .val (.int p3), .val (.int p4), .val (.int (p0 &&& (3 : Int32))), .val (.int ((p3 &&& (255 : Int32)).toUInt32.toUInt16.toUInt32.toInt32)), .val (.ref o), .val .null, .unset] [(.ref o)])) (fun t_ k_ => XS.aload X46.here hx rfl (hb hby at_315) rfl rfl k_) ?_
          obtain ⟨_, _, ⟨T51, Lu51, ku51, nu51⟩, -, X51, ⟨Lc51, hQ51, lu51, yu51, zu51⟩, st51⟩ := Jvm.LawKit.callS X46 hx (y := (⟨"com/example/tuplebag/tuplebag/bench/Workload", "named", "(Ljava/lang/String;)Ljava/util/Optional;"⟩ : MethodName)) hown (mvT hZ (hw _ (List.mem_of_getElem? (i := 17) rfl))) (mvT hZ (hw _ (List.mem_of_getElem? (i := 18) rfl))) (mvT hZ (hw _ (List.mem_of_getElem? (i := 15) rfl))) (mvT hZ (hw _ (List.mem_of_getElem? (i := 19) rfl))) (by decide) (backOf (W := 0) (rm_nd_none l Z a0 hw [] (o) (t1) (kb) (cs) (a_OUT) (a__VALUES) (a_INP) (a_TAKE_COMPLETE) (a_OUT_text) (a_INP_text) (a_TAKE_COMPLETE_text) (a_OUT_text_value) (a_INP_text_value) (a_TAKE_COMPLETE_text_value) (a_EM) (k__VALUES) (k_OUT_text_value) (k_INP_text_value) (k_TAKE_COMPLETE_text_value) (cs0) h45 O45 w Fz47 Fz48 Fz49 Fz50 hp hl hq_OUT hq_INP hq_TAKE_COMPLETE) hZ (hw _ (List.mem_of_getElem? (i := 19) rfl)) (hw _ (List.mem_of_getElem? (i := 15) rfl)) (by decide) (by decide)) (g := (mkF m 317 #[.val (.int p0), .val (.int p1), .val (.int p2), .val (.int p3), .val (.int p4), .val (.int (p0 &&& (3 : Int32))), .val (.int ((p3 &&& (255 : Int32)).toUInt32.toUInt16.toUInt32.toInt32)), .val (.ref o), .val .null, .unset] [(.ref o)])) rfl (by rw [hml]; rfl) (argsL := [(.ref o)]) (rest := []) (lenOf own_pd8 rfl) rfl (by show 2 * 0 + _ ≤ _; exact Nat.le_of_eq rfl) (hb hby at_317) (fun _ _ => ⟨rfl, e46, (by decide : 18 + 1 ≤ _), (by decide : 488 + 3 ≤ _)⟩)
          dsimp only [Pt.U, Pt.locs, Pt.cells, Pt.slots] at X51 lu51 yu51 zu51 st51 hQ51
          subst lu51 yu51 zu51
          obtain ⟨r51, rfl, N51q, K51q, X51q, F51q⟩ := hQ51
          have N51 := Fr.app N46 N51q
          have O51 := own_extK O45 K51q all0
          have KK51 : Keep h0 T51.heap [] := K45.trans K51q all0
          have R51 := R45.trans (CHr.keep K51q all0 R45.1)
          refine own_go (T51.setTop (mkF m 320 #[.val (.int p0), .val (.int p1), .val (.int p2), .val (.int p3), .val (.int p4), .val (.int (p0 &&& (3 : Int32))), .val (.int ((p3 &&& (255 : Int32)).toUInt32.toUInt16.toUInt32.toInt32)), .val (.ref o), .val .null, .unset] [(.ref r51)])) (fun t_ k_ => st51 _ k_) ?_
          refine own_go (T51.setTop (mkF m 322 #[.val (.int p0), .val (.int p1), .val (.int p2), .val (.int p3), .val (.int p4), .val (.int (p0 &&& (3 : Int32))), .val (.int ((p3 &&& (255 : Int32)).toUInt32.toUInt16.toUInt32.toInt32)), .val (.ref o), .val .null, .val (.ref r51)] [])) (fun t_ k_ => XS.astore X51.here hx rfl (hb hby at_320) rfl rfl (l' := #[.val (.int p0), .val (.int p1), .val (.int p2), .val (.int p3), .val (.int p4), .val (.int (p0 &&& (3 : Int32))), .val (.int ((p3 &&& (255 : Int32)).toUInt32.toUInt16.toUInt32.toInt32)), .val (.ref o), .val .null, .val (.ref r51)]) rfl k_) ?_
          refine own_go (T51.setTop (mkF m 324 #[.val (.int p0), .val (.int p1), .val (.int p2), .val (.int p3), .val (.int p4), .val (.int (p0 &&& (3 : Int32))), .val (.int ((p3 &&& (255 : Int32)).toUInt32.toUInt16.toUInt32.toInt32)), .val (.ref o), .val .null, .val (.ref r51)] [.null])) (fun t_ k_ => XS.aload X51.here hx rfl (hb hby at_322) rfl rfl k_) ?_
          refine own_go (T51.setTop (mkF m 327 #[.val (.int p0), .val (.int p1), .val (.int p2), .val (.int p3), .val (.int p4), .val (.int (p0 &&& (3 : Int32))), .val (.int ((p3 &&& (255 : Int32)).toUInt32.toUInt16.toUInt32.toInt32)), .val (.ref o), .val .null, .val (.ref r51)] [])) (fun t_ k_ => XS.ifnonnullNo X51.here hx rfl (hb hby at_324) rfl k_) ?_
          refine own_go (T51.setTop (mkF m 329 #[.val (.int p0), .val (.int p1), .val (.int p2), .val (.int p3), .val (.int p4), .val (.int (p0 &&& (3 : Int32))), .val (.int ((p3 &&& (255 : Int32)).toUInt32.toUInt16.toUInt32.toInt32)), .val (.ref o), .val .null, .val (.ref r51)] [(.ref r51)])) (fun t_ k_ => XS.aload X51.here hx rfl (hb hby at_327) rfl rfl k_) ?_
          obtain ⟨cq52, kq52, q52a, q52b, q52c⟩ := isOf hZ rfl X51q
          obtain ⟨_, _, ⟨T52, Lu52, ku52, nu52⟩, -, X52, ⟨Lc52, hQ52, lu52, yu52, zu52⟩, st52⟩ := X51.virtualBack hx (y := (⟨"java/util/Optional", "isPresent", "()Z"⟩ : MethodName)) (z := (⟨"java/util/Optional", "isPresent", "()Z"⟩ : MethodName)) hown (mvT hZ (hw _ (List.mem_of_getElem? (i := 72) rfl))) (mvT hZ (hw _ (List.mem_of_getElem? (i := 73) rfl))) (notFace_of_selects (args := #[]) (mvT hZ (hw _ (List.mem_of_getElem? (i := 75) rfl)))) (mvT hZ (hw _ (List.mem_of_getElem? (i := 75) rfl))) (mvT hZ (hw _ (List.mem_of_getElem? (i := 74) rfl))) (by decide) (backOf (W := 0) (rm_pN l Z a0 hw [] (r51) T51.heap O51 F51q) hZ (hw _ (List.mem_of_getElem? (i := 76) rfl)) (hw _ (List.mem_of_getElem? (i := 22) rfl)) (by decide) (by decide)) q52a q52c (g := (mkF m 329 #[.val (.int p0), .val (.int p1), .val (.int p2), .val (.int p3), .val (.int p4), .val (.int (p0 &&& (3 : Int32))), .val (.int ((p3 &&& (255 : Int32)).toUInt32.toUInt16.toUInt32.toInt32)), .val (.ref o), .val .null, .val (.ref r51)] [(.ref r51)])) rfl (by rw [hml]; rfl) (Steps.refl _) (argsL := []) (rest := []) (lenOf own_pd9 rfl) rfl (by show 2 * 0 + _ ≤ _; exact Nat.le_of_eq rfl) (hb hby at_329) (fun _ _ => ⟨rfl, rfl, (by decide : 19 + 0 ≤ _), (by decide : 491 + 0 ≤ _)⟩)
          dsimp only [Pt.U, Pt.locs, Pt.cells, Pt.slots] at X52 lu52 yu52 zu52 st52 hQ52
          subst lu52 yu52 zu52
          obtain ⟨rfl, N52q, e52⟩ := hQ52
          have N52 := Fr.app N51 N52q
          refine own_go (T52.setTop (mkF m 332 #[.val (.int p0), .val (.int p1), .val (.int p2), .val (.int p3), .val (.int p4), .val (.int (p0 &&& (3 : Int32))), .val (.int ((p3 &&& (255 : Int32)).toUInt32.toUInt16.toUInt32.toInt32)), .val (.ref o), .val .null, .val (.ref r51)] [(.int (0 : Int32))])) (fun t_ k_ => st52.trans k_) ?_
          refine own_go (T52.setTop (mkF m 335 #[.val (.int p0), .val (.int p1), .val (.int p2), .val (.int p3), .val (.int p4), .val (.int (p0 &&& (3 : Int32))), .val (.int ((p3 &&& (255 : Int32)).toUInt32.toUInt16.toUInt32.toInt32)), .val (.ref o), .val .null, .val (.ref r51)] [])) (fun t_ k_ => XS.ifNo X52.here hx rfl (hb hby at_332) rfl ((if0 _ _).trans (teq (by decide : (0 : Int32) = (0 : Int32))).2) k_) ?_
          refine own_go (T52.setTop (mkF m 336 #[.val (.int p0), .val (.int p1), .val (.int p2), .val (.int p3), .val (.int p4), .val (.int (p0 &&& (3 : Int32))), .val (.int ((p3 &&& (255 : Int32)).toUInt32.toUInt16.toUInt32.toInt32)), .val (.ref o), .val .null, .val (.ref r51)] [(.int (1 : Int32))])) (fun t_ k_ => XS.iconst X52.here hx rfl (hb hby at_335) k_) ?_
          refine own_go (T52.setTop (mkF m 340 #[.val (.int p0), .val (.int p1), .val (.int p2), .val (.int p3), .val (.int p4), .val (.int (p0 &&& (3 : Int32))), .val (.int ((p3 &&& (255 : Int32)).toUInt32.toUInt16.toUInt32.toInt32)), .val (.ref o), .val .null, .val (.ref r51)] [(.int (1 : Int32))])) (fun t_ k_ => XS.goto X52.here hx rfl (pc0 := 336) (pc' := 340) rfl (hb hby at_336) (by decide) (by decide) k_) ?_
          obtain ⟨fs, hr, hrun, hended, hRW⟩ := X52.leaveW hS (by rw [show T52.heap = T51.heap from e52]; exact (Nat.le_trans hk K51q.1)) (v := some (.int (nar .boolean (1 : Int32)))) (fun h => by rw [Bd.returns] at h; cases h)
          refine ⟨_, _, retN X52 hx (t := .boolean) Bd.returns (by simp) (hb hby at_340) hr, hrun, hended, _, _, rfl, ?_, hRW.1, hRW.2.1, hRW.2.2.1, hRW.2.2.2.mono (by decide) (by decide)⟩
          show Q_law Z p0 p1 p2 p3 p4 a_OUT a__VALUES a_INP a_TAKE_COMPLETE a_OUT_text a_INP_text a_TAKE_COMPLETE_text a_OUT_text_value a_INP_text_value a_TAKE_COMPLETE_text_value a_EM k__VALUES k_OUT_text_value k_INP_text_value k_TAKE_COMPLETE_text_value cs0 h0 _ T52.heap _
          exact ⟨rfl, N52, trivial⟩
  refine own_go (s₁.setTop (mkF m 15 #[.val (.int p0), .val (.int p1), .val (.int p2), .val (.int p3), .val (.int p4), .val (.int (p0 &&& (3 : Int32))), .val (.int ((p3 &&& (255 : Int32)).toUInt32.toUInt16.toUInt32.toInt32)), .unset, .unset, .unset] [(.int (p0 &&& (3 : Int32)))])) (fun t_ k_ => XS.iload X0.here hx rfl (hb hby at_13) rfl k_) ?_
  by_cases hc15_53 : (p0 &&& (3 : Int32)) = (0 : Int32)
  ·
    refine own_go (s₁.setTop (mkF m 18 #[.val (.int p0), .val (.int p1), .val (.int p2), .val (.int p3), .val (.int p4), .val (.int (p0 &&& (3 : Int32))), .val (.int ((p3 &&& (255 : Int32)).toUInt32.toUInt16.toUInt32.toInt32)), .unset, .unset, .unset] [])) (fun t_ k_ => XS.ifNo X0.here hx rfl (hb hby at_15) rfl ((if0 _ _).trans (teq hc15_53).2) k_) ?_
    refine own_go (s₁.setTop (mkF m 19 #[.val (.int p0), .val (.int p1), .val (.int p2), .val (.int p3), .val (.int p4), .val (.int (p0 &&& (3 : Int32))), .val (.int ((p3 &&& (255 : Int32)).toUInt32.toUInt16.toUInt32.toInt32)), .unset, .unset, .unset] [(.int p1)])) (fun t_ k_ => XS.iloadN X0.here hx rfl (hb hby at_18) rfl k_) ?_
    refine own_go (s₁.setTop (mkF m 21 #[.val (.int p0), .val (.int p1), .val (.int p2), .val (.int p3), .val (.int p4), .val (.int (p0 &&& (3 : Int32))), .val (.int ((p3 &&& (255 : Int32)).toUInt32.toUInt16.toUInt32.toInt32)), .unset, .unset, .unset] [(.int (2147483647 : Int32)), (.int p1)])) (fun t_ k_ => X0.ldcInt hx hown (mvT hZ (hw _ (List.mem_of_getElem? (i := 0) rfl))) (g := (mkF m 19 #[.val (.int p0), .val (.int p1), .val (.int p2), .val (.int p3), .val (.int p4), .val (.int (p0 &&& (3 : Int32))), .val (.int ((p3 &&& (255 : Int32)).toUInt32.toUInt16.toUInt32.toInt32)), .unset, .unset, .unset] [(.int p1)])) rfl (hb hby at_19) _ k_) ?_
    refine own_go (s₁.setTop (mkF m 22 #[.val (.int p0), .val (.int p1), .val (.int p2), .val (.int p3), .val (.int p4), .val (.int (p0 &&& (3 : Int32))), .val (.int ((p3 &&& (255 : Int32)).toUInt32.toUInt16.toUInt32.toInt32)), .unset, .unset, .unset] [(.int (p1 &&& (2147483647 : Int32)))])) (fun t_ k_ => XS.iand X0.here hx rfl (hb hby at_21) rfl k_) ?_
    refine own_go (s₁.setTop (mkF m 23 #[.val (.int p0), .val (.int p1), .val (.int p2), .val (.int p3), .val (.int p4), .val (.int (p0 &&& (3 : Int32))), .val (.int ((p3 &&& (255 : Int32)).toUInt32.toUInt16.toUInt32.toInt32)), .unset, .unset, .unset] [(.int (3 : Int32)), (.int (p1 &&& (2147483647 : Int32)))])) (fun t_ k_ => XS.iconst X0.here hx rfl (hb hby at_22) k_) ?_
    refine own_go (s₁.setTop (mkF m 24 #[.val (.int p0), .val (.int p1), .val (.int p2), .val (.int p3), .val (.int p4), .val (.int (p0 &&& (3 : Int32))), .val (.int ((p3 &&& (255 : Int32)).toUInt32.toUInt16.toUInt32.toInt32)), .unset, .unset, .unset] [(.int ((p1 &&& (2147483647 : Int32)) % (3 : Int32)))])) (fun t_ k_ => Jvm.RoadKit.iremM X0 hx rfl (hb hby at_23) rfl (by decide) k_) ?_
    refine own_go (s₁.setTop (mkF m 26 #[.val (.int p0), .val (.int p1), .val (.int p2), .val (.int p3), .val (.int p4), .val (.int (p0 &&& (3 : Int32))), .val (.int ((p3 &&& (255 : Int32)).toUInt32.toUInt16.toUInt32.toInt32)), .unset, .val (.int ((p1 &&& (2147483647 : Int32)) % (3 : Int32))), .unset] [])) (fun t_ k_ => XS.istore X0.here hx rfl (hb hby at_24) rfl (l' := #[.val (.int p0), .val (.int p1), .val (.int p2), .val (.int p3), .val (.int p4), .val (.int (p0 &&& (3 : Int32))), .val (.int ((p3 &&& (255 : Int32)).toUInt32.toUInt16.toUInt32.toInt32)), .unset, .val (.int ((p1 &&& (2147483647 : Int32)) % (3 : Int32))), .unset]) rfl k_) ?_
    refine own_go (s₁.setTop (mkF m 28 #[.val (.int p0), .val (.int p1), .val (.int p2), .val (.int p3), .val (.int p4), .val (.int (p0 &&& (3 : Int32))), .val (.int ((p3 &&& (255 : Int32)).toUInt32.toUInt16.toUInt32.toInt32)), .unset, .val (.int ((p1 &&& (2147483647 : Int32)) % (3 : Int32))), .unset] [(.int ((p1 &&& (2147483647 : Int32)) % (3 : Int32)))])) (fun t_ k_ => XS.iload X0.here hx rfl (hb hby at_26) rfl k_) ?_
    by_cases hc28_54 : ((p1 &&& (2147483647 : Int32)) % (3 : Int32)) = (0 : Int32)
    ·
      refine own_go (s₁.setTop (mkF m 31 #[.val (.int p0), .val (.int p1), .val (.int p2), .val (.int p3), .val (.int p4), .val (.int (p0 &&& (3 : Int32))), .val (.int ((p3 &&& (255 : Int32)).toUInt32.toUInt16.toUInt32.toInt32)), .unset, .val (.int ((p1 &&& (2147483647 : Int32)) % (3 : Int32))), .unset] [])) (fun t_ k_ => XS.ifNo X0.here hx rfl (hb hby at_28) rfl ((if0 _ _).trans (teq hc28_54).2) k_) ?_
      obtain ⟨a55, T55, h55, k55, t55, kb55, X55, e55, E55, hS, hk, hZ, hown, A55, C55, V55, B55, lt55, ltb55, CC55, Li55, ne55, st55⟩ := ldcCH (EL := consts_1) X0 hx hZ hown (hw _ (List.mem_of_getElem? (i := 1) rfl)) (fun d hd => hw d (own_sA d hd)) e0 hS hk hEW (List.mem_of_getElem? (i := 0) rfl) R0.1 (vs := (([111, 117, 116] : List Int32).map (fun c => c.toInt8.toInt32)).map Value.int) (z := 3) (by exact ⟨by decide, by rfl⟩) (by decide) (by rfl) (g := (mkF m 31 #[.val (.int p0), .val (.int p1), .val (.int p2), .val (.int p3), .val (.int p4), .val (.int (p0 &&& (3 : Int32))), .val (.int ((p3 &&& (255 : Int32)).toUInt32.toUInt16.toUInt32.toInt32)), .unset, .val (.int ((p1 &&& (2147483647 : Int32)) % (3 : Int32))), .unset] [])) rfl (hb hby at_31) (n := 12) (by decide) (by decide) (by decide) (by decide)
      have K55 : Keep h0 h55 [] := (Keep.refl h0 []).ext E55
      have O55 := own_ext O E55
      have R55 := R0.trans CC55
      refine own_go (T55.setTop (mkF m 33 #[.val (.int p0), .val (.int p1), .val (.int p2), .val (.int p3), .val (.int p4), .val (.int (p0 &&& (3 : Int32))), .val (.int ((p3 &&& (255 : Int32)).toUInt32.toUInt16.toUInt32.toInt32)), .unset, .val (.int ((p1 &&& (2147483647 : Int32)) % (3 : Int32))), .unset] [(.ref a55)])) (fun t_ k_ => st55 _ k_) ?_
      refine own_go (T55.setTop (mkF m 35 #[.val (.int p0), .val (.int p1), .val (.int p2), .val (.int p3), .val (.int p4), .val (.int (p0 &&& (3 : Int32))), .val (.int ((p3 &&& (255 : Int32)).toUInt32.toUInt16.toUInt32.toInt32)), .val (.ref a55), .val (.int ((p1 &&& (2147483647 : Int32)) % (3 : Int32))), .unset] [])) (fun t_ k_ => XS.astore X55.here hx rfl (hb hby at_33) rfl rfl (l' := #[.val (.int p0), .val (.int p1), .val (.int p2), .val (.int p3), .val (.int p4), .val (.int (p0 &&& (3 : Int32))), .val (.int ((p3 &&& (255 : Int32)).toUInt32.toUInt16.toUInt32.toInt32)), .val (.ref a55), .val (.int ((p1 &&& (2147483647 : Int32)) % (3 : Int32))), .unset]) rfl k_) ?_
      refine own_go (T55.setTop (mkF m 55 #[.val (.int p0), .val (.int p1), .val (.int p2), .val (.int p3), .val (.int p4), .val (.int (p0 &&& (3 : Int32))), .val (.int ((p3 &&& (255 : Int32)).toUInt32.toUInt16.toUInt32.toInt32)), .val (.ref a55), .val (.int ((p1 &&& (2147483647 : Int32)) % (3 : Int32))), .unset] [])) (fun t_ k_ => XS.goto X55.here hx rfl (pc0 := 35) (pc' := 55) rfl (hb hby at_35) (by decide) (by decide) k_) ?_
      refine own_go (T55.setTop (mkF m 258 #[.val (.int p0), .val (.int p1), .val (.int p2), .val (.int p3), .val (.int p4), .val (.int (p0 &&& (3 : Int32))), .val (.int ((p3 &&& (255 : Int32)).toUInt32.toUInt16.toUInt32.toInt32)), .val (.ref a55), .val (.int ((p1 &&& (2147483647 : Int32)) % (3 : Int32))), .unset] [])) (fun t_ k_ => XS.goto X55.here hx rfl (pc0 := 55) (pc' := 258) rfl (hb hby at_55) (by decide) (by decide) k_) ?_
      exact J1 _ _ _ hS hk hZ hown _ _ (X55.more (by decide) (by decide)) N0 e55 O55 K55 R55 (a55) (t55) (kb55) (([111, 117, 116] : List Int32)) (.val (.int ((p1 &&& (2147483647 : Int32)) % (3 : Int32)))) (own_lit_WorkloadNamedPinLaw_8) (by first | decide | exact Nat.le_of_ble_eq_true rfl | simp | exact trivial) (One.val rfl) A55 V55 C55 B55
    ·
      refine own_go (s₁.setTop (mkF m 38 #[.val (.int p0), .val (.int p1), .val (.int p2), .val (.int p3), .val (.int p4), .val (.int (p0 &&& (3 : Int32))), .val (.int ((p3 &&& (255 : Int32)).toUInt32.toUInt16.toUInt32.toInt32)), .unset, .val (.int ((p1 &&& (2147483647 : Int32)) % (3 : Int32))), .unset] [])) (fun t_ k_ => XS.ifYes X0.here hx rfl (pc0 := 28) (pc' := 38) rfl (hb hby at_28) rfl ((if0 _ _).trans (feq hc28_54).2) (by decide) (by decide) k_) ?_
      refine own_go (s₁.setTop (mkF m 40 #[.val (.int p0), .val (.int p1), .val (.int p2), .val (.int p3), .val (.int p4), .val (.int (p0 &&& (3 : Int32))), .val (.int ((p3 &&& (255 : Int32)).toUInt32.toUInt16.toUInt32.toInt32)), .unset, .val (.int ((p1 &&& (2147483647 : Int32)) % (3 : Int32))), .unset] [(.int ((p1 &&& (2147483647 : Int32)) % (3 : Int32)))])) (fun t_ k_ => XS.iload X0.here hx rfl (hb hby at_38) rfl k_) ?_
      refine own_go (s₁.setTop (mkF m 41 #[.val (.int p0), .val (.int p1), .val (.int p2), .val (.int p3), .val (.int p4), .val (.int (p0 &&& (3 : Int32))), .val (.int ((p3 &&& (255 : Int32)).toUInt32.toUInt16.toUInt32.toInt32)), .unset, .val (.int ((p1 &&& (2147483647 : Int32)) % (3 : Int32))), .unset] [(.int (1 : Int32)), (.int ((p1 &&& (2147483647 : Int32)) % (3 : Int32)))])) (fun t_ k_ => XS.iconst X0.here hx rfl (hb hby at_40) k_) ?_
      by_cases hc41_56 : ((p1 &&& (2147483647 : Int32)) % (3 : Int32)) = (1 : Int32)
      ·
        refine own_go (s₁.setTop (mkF m 44 #[.val (.int p0), .val (.int p1), .val (.int p2), .val (.int p3), .val (.int p4), .val (.int (p0 &&& (3 : Int32))), .val (.int ((p3 &&& (255 : Int32)).toUInt32.toUInt16.toUInt32.toInt32)), .unset, .val (.int ((p1 &&& (2147483647 : Int32)) % (3 : Int32))), .unset] [])) (fun t_ k_ => XS.icmpNo X0.here hx rfl (hb hby at_41) rfl (teq hc41_56).2 k_) ?_
        obtain ⟨a57, T57, h57, k57, t57, kb57, X57, e57, E57, hS, hk, hZ, hown, A57, C57, V57, B57, lt57, ltb57, CC57, Li57, ne57, st57⟩ := ldcCH (EL := consts_1) X0 hx hZ hown (hw _ (List.mem_of_getElem? (i := 101) rfl)) (fun d hd => hw d (own_sA d hd)) e0 hS hk hEW (List.mem_of_getElem? (i := 1) rfl) R0.1 (vs := (([105, 110, 112] : List Int32).map (fun c => c.toInt8.toInt32)).map Value.int) (z := 3) (by exact ⟨by decide, by rfl⟩) (by decide) (by rfl) (g := (mkF m 44 #[.val (.int p0), .val (.int p1), .val (.int p2), .val (.int p3), .val (.int p4), .val (.int (p0 &&& (3 : Int32))), .val (.int ((p3 &&& (255 : Int32)).toUInt32.toUInt16.toUInt32.toInt32)), .unset, .val (.int ((p1 &&& (2147483647 : Int32)) % (3 : Int32))), .unset] [])) rfl (hb hby at_44) (n := 12) (by decide) (by decide) (by decide) (by decide)
        have K57 : Keep h0 h57 [] := (Keep.refl h0 []).ext E57
        have O57 := own_ext O E57
        have R57 := R0.trans CC57
        refine own_go (T57.setTop (mkF m 46 #[.val (.int p0), .val (.int p1), .val (.int p2), .val (.int p3), .val (.int p4), .val (.int (p0 &&& (3 : Int32))), .val (.int ((p3 &&& (255 : Int32)).toUInt32.toUInt16.toUInt32.toInt32)), .unset, .val (.int ((p1 &&& (2147483647 : Int32)) % (3 : Int32))), .unset] [(.ref a57)])) (fun t_ k_ => st57 _ k_) ?_
        refine own_go (T57.setTop (mkF m 48 #[.val (.int p0), .val (.int p1), .val (.int p2), .val (.int p3), .val (.int p4), .val (.int (p0 &&& (3 : Int32))), .val (.int ((p3 &&& (255 : Int32)).toUInt32.toUInt16.toUInt32.toInt32)), .val (.ref a57), .val (.int ((p1 &&& (2147483647 : Int32)) % (3 : Int32))), .unset] [])) (fun t_ k_ => XS.astore X57.here hx rfl (hb hby at_46) rfl rfl (l' := #[.val (.int p0), .val (.int p1), .val (.int p2), .val (.int p3), .val (.int p4), .val (.int (p0 &&& (3 : Int32))), .val (.int ((p3 &&& (255 : Int32)).toUInt32.toUInt16.toUInt32.toInt32)), .val (.ref a57), .val (.int ((p1 &&& (2147483647 : Int32)) % (3 : Int32))), .unset]) rfl k_) ?_
        refine own_go (T57.setTop (mkF m 55 #[.val (.int p0), .val (.int p1), .val (.int p2), .val (.int p3), .val (.int p4), .val (.int (p0 &&& (3 : Int32))), .val (.int ((p3 &&& (255 : Int32)).toUInt32.toUInt16.toUInt32.toInt32)), .val (.ref a57), .val (.int ((p1 &&& (2147483647 : Int32)) % (3 : Int32))), .unset] [])) (fun t_ k_ => XS.goto X57.here hx rfl (pc0 := 48) (pc' := 55) rfl (hb hby at_48) (by decide) (by decide) k_) ?_
        refine own_go (T57.setTop (mkF m 258 #[.val (.int p0), .val (.int p1), .val (.int p2), .val (.int p3), .val (.int p4), .val (.int (p0 &&& (3 : Int32))), .val (.int ((p3 &&& (255 : Int32)).toUInt32.toUInt16.toUInt32.toInt32)), .val (.ref a57), .val (.int ((p1 &&& (2147483647 : Int32)) % (3 : Int32))), .unset] [])) (fun t_ k_ => XS.goto X57.here hx rfl (pc0 := 55) (pc' := 258) rfl (hb hby at_55) (by decide) (by decide) k_) ?_
        exact J1 _ _ _ hS hk hZ hown _ _ (X57.more (by decide) (by decide)) N0 e57 O57 K57 R57 (a57) (t57) (kb57) (([105, 110, 112] : List Int32)) (.val (.int ((p1 &&& (2147483647 : Int32)) % (3 : Int32)))) (own_lit_WorkloadNamedPinLaw_10) (by first | decide | exact Nat.le_of_ble_eq_true rfl | simp | exact trivial) (One.val rfl) A57 V57 C57 B57
      ·
        refine own_go (s₁.setTop (mkF m 51 #[.val (.int p0), .val (.int p1), .val (.int p2), .val (.int p3), .val (.int p4), .val (.int (p0 &&& (3 : Int32))), .val (.int ((p3 &&& (255 : Int32)).toUInt32.toUInt16.toUInt32.toInt32)), .unset, .val (.int ((p1 &&& (2147483647 : Int32)) % (3 : Int32))), .unset] [])) (fun t_ k_ => XS.icmpYes X0.here hx rfl (pc0 := 41) (pc' := 51) rfl (hb hby at_41) rfl (feq hc41_56).2 (by decide) (by decide) k_) ?_
        obtain ⟨a58, T58, h58, k58, t58, kb58, X58, e58, E58, hS, hk, hZ, hown, A58, C58, V58, B58, lt58, ltb58, CC58, Li58, ne58, st58⟩ := ldcCH (EL := consts_1) X0 hx hZ hown (hw _ (List.mem_of_getElem? (i := 102) rfl)) (fun d hd => hw d (own_sA d hd)) e0 hS hk hEW (List.mem_of_getElem? (i := 2) rfl) R0.1 (vs := (([116, 97, 107, 101, 45, 99, 111, 109, 112, 108, 101, 116, 101] : List Int32).map (fun c => c.toInt8.toInt32)).map Value.int) (z := 13) (by exact ⟨by decide, by rfl⟩) (by decide) (by rfl) (g := (mkF m 51 #[.val (.int p0), .val (.int p1), .val (.int p2), .val (.int p3), .val (.int p4), .val (.int (p0 &&& (3 : Int32))), .val (.int ((p3 &&& (255 : Int32)).toUInt32.toUInt16.toUInt32.toInt32)), .unset, .val (.int ((p1 &&& (2147483647 : Int32)) % (3 : Int32))), .unset] [])) rfl (hb hby at_51) (n := 52) (by decide) (by decide) (by decide) (by decide)
        have K58 : Keep h0 h58 [] := (Keep.refl h0 []).ext E58
        have O58 := own_ext O E58
        have R58 := R0.trans CC58
        refine own_go (T58.setTop (mkF m 53 #[.val (.int p0), .val (.int p1), .val (.int p2), .val (.int p3), .val (.int p4), .val (.int (p0 &&& (3 : Int32))), .val (.int ((p3 &&& (255 : Int32)).toUInt32.toUInt16.toUInt32.toInt32)), .unset, .val (.int ((p1 &&& (2147483647 : Int32)) % (3 : Int32))), .unset] [(.ref a58)])) (fun t_ k_ => st58 _ k_) ?_
        refine own_go (T58.setTop (mkF m 55 #[.val (.int p0), .val (.int p1), .val (.int p2), .val (.int p3), .val (.int p4), .val (.int (p0 &&& (3 : Int32))), .val (.int ((p3 &&& (255 : Int32)).toUInt32.toUInt16.toUInt32.toInt32)), .val (.ref a58), .val (.int ((p1 &&& (2147483647 : Int32)) % (3 : Int32))), .unset] [])) (fun t_ k_ => XS.astore X58.here hx rfl (hb hby at_53) rfl rfl (l' := #[.val (.int p0), .val (.int p1), .val (.int p2), .val (.int p3), .val (.int p4), .val (.int (p0 &&& (3 : Int32))), .val (.int ((p3 &&& (255 : Int32)).toUInt32.toUInt16.toUInt32.toInt32)), .val (.ref a58), .val (.int ((p1 &&& (2147483647 : Int32)) % (3 : Int32))), .unset]) rfl k_) ?_
        refine own_go (T58.setTop (mkF m 258 #[.val (.int p0), .val (.int p1), .val (.int p2), .val (.int p3), .val (.int p4), .val (.int (p0 &&& (3 : Int32))), .val (.int ((p3 &&& (255 : Int32)).toUInt32.toUInt16.toUInt32.toInt32)), .val (.ref a58), .val (.int ((p1 &&& (2147483647 : Int32)) % (3 : Int32))), .unset] [])) (fun t_ k_ => XS.goto X58.here hx rfl (pc0 := 55) (pc' := 258) rfl (hb hby at_55) (by decide) (by decide) k_) ?_
        exact J1 _ _ _ hS hk hZ hown _ _ (X58.more (by decide) (by decide)) N0 e58 O58 K58 R58 (a58) (t58) (kb58) (([116, 97, 107, 101, 45, 99, 111, 109, 112, 108, 101, 116, 101] : List Int32)) (.val (.int ((p1 &&& (2147483647 : Int32)) % (3 : Int32)))) (own_lit_WorkloadNamedPinLaw_12) (by first | decide | exact Nat.le_of_ble_eq_true rfl | simp | exact trivial) (One.val rfl) A58 V58 C58 B58
  ·
    refine own_go (s₁.setTop (mkF m 58 #[.val (.int p0), .val (.int p1), .val (.int p2), .val (.int p3), .val (.int p4), .val (.int (p0 &&& (3 : Int32))), .val (.int ((p3 &&& (255 : Int32)).toUInt32.toUInt16.toUInt32.toInt32)), .unset, .unset, .unset] [])) (fun t_ k_ => XS.ifYes X0.here hx rfl (pc0 := 15) (pc' := 58) rfl (hb hby at_15) rfl ((if0 _ _).trans (feq hc15_53).2) (by decide) (by decide) k_) ?_
    refine own_go (s₁.setTop (mkF m 60 #[.val (.int p0), .val (.int p1), .val (.int p2), .val (.int p3), .val (.int p4), .val (.int (p0 &&& (3 : Int32))), .val (.int ((p3 &&& (255 : Int32)).toUInt32.toUInt16.toUInt32.toInt32)), .unset, .unset, .unset] [(.int (p0 &&& (3 : Int32)))])) (fun t_ k_ => XS.iload X0.here hx rfl (hb hby at_58) rfl k_) ?_
    refine own_go (s₁.setTop (mkF m 61 #[.val (.int p0), .val (.int p1), .val (.int p2), .val (.int p3), .val (.int p4), .val (.int (p0 &&& (3 : Int32))), .val (.int ((p3 &&& (255 : Int32)).toUInt32.toUInt16.toUInt32.toInt32)), .unset, .unset, .unset] [(.int (1 : Int32)), (.int (p0 &&& (3 : Int32)))])) (fun t_ k_ => XS.iconst X0.here hx rfl (hb hby at_60) k_) ?_
    by_cases hc61_59 : (p0 &&& (3 : Int32)) = (1 : Int32)
    ·
      refine own_go (s₁.setTop (mkF m 64 #[.val (.int p0), .val (.int p1), .val (.int p2), .val (.int p3), .val (.int p4), .val (.int (p0 &&& (3 : Int32))), .val (.int ((p3 &&& (255 : Int32)).toUInt32.toUInt16.toUInt32.toInt32)), .unset, .unset, .unset] [])) (fun t_ k_ => XS.icmpNo X0.here hx rfl (hb hby at_61) rfl (teq hc61_59).2 k_) ?_
      refine own_go (s₁.setTop (mkF m 65 #[.val (.int p0), .val (.int p1), .val (.int p2), .val (.int p3), .val (.int p4), .val (.int (p0 &&& (3 : Int32))), .val (.int ((p3 &&& (255 : Int32)).toUInt32.toUInt16.toUInt32.toInt32)), .unset, .unset, .unset] [(.int p1)])) (fun t_ k_ => XS.iloadN X0.here hx rfl (hb hby at_64) rfl k_) ?_
      refine own_go (s₁.setTop (mkF m 66 #[.val (.int p0), .val (.int p1), .val (.int p2), .val (.int p3), .val (.int p4), .val (.int (p0 &&& (3 : Int32))), .val (.int ((p3 &&& (255 : Int32)).toUInt32.toUInt16.toUInt32.toInt32)), .unset, .unset, .unset] [(.int (1 : Int32)), (.int p1)])) (fun t_ k_ => XS.iconst X0.here hx rfl (hb hby at_65) k_) ?_
      refine own_go (s₁.setTop (mkF m 67 #[.val (.int p0), .val (.int p1), .val (.int p2), .val (.int p3), .val (.int p4), .val (.int (p0 &&& (3 : Int32))), .val (.int ((p3 &&& (255 : Int32)).toUInt32.toUInt16.toUInt32.toInt32)), .unset, .unset, .unset] [(.int (p1 &&& (1 : Int32)))])) (fun t_ k_ => XS.iand X0.here hx rfl (hb hby at_66) rfl k_) ?_
      by_cases hc67_60 : (p1 &&& (1 : Int32)) = (0 : Int32)
      ·
        refine own_go (s₁.setTop (mkF m 70 #[.val (.int p0), .val (.int p1), .val (.int p2), .val (.int p3), .val (.int p4), .val (.int (p0 &&& (3 : Int32))), .val (.int ((p3 &&& (255 : Int32)).toUInt32.toUInt16.toUInt32.toInt32)), .unset, .unset, .unset] [])) (fun t_ k_ => XS.ifNo X0.here hx rfl (hb hby at_67) rfl ((if0 _ _).trans (teq hc67_60).2) k_) ?_
        refine own_go (s₁.setTop (mkF m 71 #[.val (.int p0), .val (.int p1), .val (.int p2), .val (.int p3), .val (.int p4), .val (.int (p0 &&& (3 : Int32))), .val (.int ((p3 &&& (255 : Int32)).toUInt32.toUInt16.toUInt32.toInt32)), .unset, .unset, .unset] [(.int (3 : Int32))])) (fun t_ k_ => XS.iconst X0.here hx rfl (hb hby at_70) k_) ?_
        obtain ⟨T61, h61, k61, X61, e61, E61, A61, st61⟩ := newP X0 hx hZ (hw _ (List.mem_of_getElem? (i := 82) rfl)) e0 (g := (mkF m 71 #[.val (.int p0), .val (.int p1), .val (.int p2), .val (.int p3), .val (.int p4), .val (.int (p0 &&& (3 : Int32))), .val (.int ((p3 &&& (255 : Int32)).toUInt32.toUInt16.toUInt32.toInt32)), .unset, .unset, .unset] [(.int (3 : Int32))])) rfl (hb hby at_71) rfl (by decide) (cap := 3) (by decide) (by decide) (by decide) (by decide)
        obtain ⟨b61, g61⟩ : ∃ z, z = h0.size := ⟨_, rfl⟩
        rw [← g61] at A61 st61
        have ge_b61 : Z.heap.size ≤ b61 := Nat.le_trans O.1 (Nat.le_of_eq g61.symm)
        have sz_b61 : h0.size ≤ b61 := Nat.le_trans (Keep.refl h0 []).1 (Nat.le_of_eq g61.symm)
        have R61 := R0.trans (CHr.ext E61 R0.1)
        have Sf61 := Safe.ext (x := b61) E61 R0.1 (Safe.new (Nat.le_of_eq g61.symm))
        have K61 : Keep h0 h61 [] := (Keep.refl h0 []).ext E61
        have O61 := own_ext O E61
        have V61 : Arv Z h61 b61 k61 .char (3 : Int32) [(.int (0 : Int32)), (.int (0 : Int32)), (.int (0 : Int32))] (.int (0 : Int32)) := (Arv.new A61 (by decide)).pad (pad_rep [] (.int (0 : Int32)) 3)
        refine own_go (T61.setTop (mkF m 73 #[.val (.int p0), .val (.int p1), .val (.int p2), .val (.int p3), .val (.int p4), .val (.int (p0 &&& (3 : Int32))), .val (.int ((p3 &&& (255 : Int32)).toUInt32.toUInt16.toUInt32.toInt32)), .unset, .unset, .unset] [(.ref b61)])) (fun t_ k_ => st61 _ k_) ?_
        refine own_go (T61.setTop (mkF m 74 #[.val (.int p0), .val (.int p1), .val (.int p2), .val (.int p3), .val (.int p4), .val (.int (p0 &&& (3 : Int32))), .val (.int ((p3 &&& (255 : Int32)).toUInt32.toUInt16.toUInt32.toInt32)), .unset, .unset, .unset] [(.ref b61), (.ref b61)])) (fun t_ k_ => XS.dup X61.here hx rfl (hb hby at_73) rfl rfl k_) ?_
        refine own_go (T61.setTop (mkF m 75 #[.val (.int p0), .val (.int p1), .val (.int p2), .val (.int p3), .val (.int p4), .val (.int (p0 &&& (3 : Int32))), .val (.int ((p3 &&& (255 : Int32)).toUInt32.toUInt16.toUInt32.toInt32)), .unset, .unset, .unset] [(.int (0 : Int32)), (.ref b61), (.ref b61)])) (fun t_ k_ => XS.iconst X61.here hx rfl (hb hby at_74) k_) ?_
        refine own_go (T61.setTop (mkF m 77 #[.val (.int p0), .val (.int p1), .val (.int p2), .val (.int p3), .val (.int p4), .val (.int (p0 &&& (3 : Int32))), .val (.int ((p3 &&& (255 : Int32)).toUInt32.toUInt16.toUInt32.toInt32)), .unset, .unset, .unset] [(.int (111 : Int32)), (.int (0 : Int32)), (.ref b61), (.ref b61)])) (fun t_ k_ => XS.bipush X61.here hx rfl (hb hby at_75) k_) ?_
        obtain ⟨cl62, Ar62, q62, Sz62, Nz62, Hz62, Gz62⟩ := id (V61)
        have hin62 : ¬ ((0 : Int32) < 0 ∨ cl62.slots.size ≤ ((0 : Int32)).toNatClampNeg) := inb_of Sz62 ⟨by decide, by decide⟩
        obtain ⟨T62, h62, X62, e62, W62, st62⟩ := stC X61 hx hZ e61 Ar62 (j := (0 : Int32)) hin62  (g := (mkF m 77 #[.val (.int p0), .val (.int p1), .val (.int p2), .val (.int p3), .val (.int p4), .val (.int (p0 &&& (3 : Int32))), .val (.int ((p3 &&& (255 : Int32)).toUInt32.toUInt16.toUInt32.toInt32)), .unset, .unset, .unset] [(.int (111 : Int32)), (.int (0 : Int32)), (.ref b61), (.ref b61)])) rfl rfl (hb hby at_77)
        have R62 := R61.trans (CHr.wr W62 Sf61 R61.1)
        have V62 : Arv Z h62 b61 k61 .char (3 : Int32) [(.int (111 : Int32)), (.int (0 : Int32)), (.int (0 : Int32))] (.int (0 : Int32)) := Arv.set Ar62 q62 Sz62 Nz62 Hz62 Gz62 (by decide) W62 0 rfl (Nat.le_of_ble_eq_true rfl)
        have K62 : Keep h0 h62 [] := K61.wr W62 (Or.inr sz_b61)
        have N62 := Fr.snoc X62 N0 ge_b61
        have O62 := own_extW O61 W62 ge_b61
        refine own_go (T62.setTop (mkF m 78 #[.val (.int p0), .val (.int p1), .val (.int p2), .val (.int p3), .val (.int p4), .val (.int (p0 &&& (3 : Int32))), .val (.int ((p3 &&& (255 : Int32)).toUInt32.toUInt16.toUInt32.toInt32)), .unset, .unset, .unset] [(.ref b61)])) (fun t_ k_ => st62 _ k_) ?_
        refine own_go (T62.setTop (mkF m 79 #[.val (.int p0), .val (.int p1), .val (.int p2), .val (.int p3), .val (.int p4), .val (.int (p0 &&& (3 : Int32))), .val (.int ((p3 &&& (255 : Int32)).toUInt32.toUInt16.toUInt32.toInt32)), .unset, .unset, .unset] [(.ref b61), (.ref b61)])) (fun t_ k_ => XS.dup X62.here hx rfl (hb hby at_78) rfl rfl k_) ?_
        refine own_go (T62.setTop (mkF m 80 #[.val (.int p0), .val (.int p1), .val (.int p2), .val (.int p3), .val (.int p4), .val (.int (p0 &&& (3 : Int32))), .val (.int ((p3 &&& (255 : Int32)).toUInt32.toUInt16.toUInt32.toInt32)), .unset, .unset, .unset] [(.int (1 : Int32)), (.ref b61), (.ref b61)])) (fun t_ k_ => XS.iconst X62.here hx rfl (hb hby at_79) k_) ?_
        refine own_go (T62.setTop (mkF m 82 #[.val (.int p0), .val (.int p1), .val (.int p2), .val (.int p3), .val (.int p4), .val (.int (p0 &&& (3 : Int32))), .val (.int ((p3 &&& (255 : Int32)).toUInt32.toUInt16.toUInt32.toInt32)), .unset, .unset, .unset] [(.int (117 : Int32)), (.int (1 : Int32)), (.ref b61), (.ref b61)])) (fun t_ k_ => XS.bipush X62.here hx rfl (hb hby at_80) k_) ?_
        obtain ⟨cl63, Ar63, q63, Sz63, Nz63, Hz63, Gz63⟩ := id (V62)
        have hin63 : ¬ ((1 : Int32) < 0 ∨ cl63.slots.size ≤ ((1 : Int32)).toNatClampNeg) := inb_of Sz63 ⟨by decide, by decide⟩
        obtain ⟨T63, h63, X63, e63, W63, st63⟩ := stC X62 hx hZ e62 Ar63 (j := (1 : Int32)) hin63  (g := (mkF m 82 #[.val (.int p0), .val (.int p1), .val (.int p2), .val (.int p3), .val (.int p4), .val (.int (p0 &&& (3 : Int32))), .val (.int ((p3 &&& (255 : Int32)).toUInt32.toUInt16.toUInt32.toInt32)), .unset, .unset, .unset] [(.int (117 : Int32)), (.int (1 : Int32)), (.ref b61), (.ref b61)])) rfl rfl (hb hby at_82)
        have Fz64 := (Safe.wr W62 Sf61 R61.1 Sf61)
        have R63 := R62.trans (CHr.wr W63 Fz64 R62.1)
        have V63 : Arv Z h63 b61 k61 .char (3 : Int32) [(.int (111 : Int32)), (.int (117 : Int32)), (.int (0 : Int32))] (.int (0 : Int32)) := Arv.set Ar63 q63 Sz63 Nz63 Hz63 Gz63 (by decide) W63 1 rfl (Nat.le_of_ble_eq_true rfl)
        have K63 : Keep h0 h63 [] := K62.wr W63 (Or.inr sz_b61)
        have N63 := Fr.snoc X63 N62 ge_b61
        have O63 := own_extW O62 W63 ge_b61
        refine own_go (T63.setTop (mkF m 83 #[.val (.int p0), .val (.int p1), .val (.int p2), .val (.int p3), .val (.int p4), .val (.int (p0 &&& (3 : Int32))), .val (.int ((p3 &&& (255 : Int32)).toUInt32.toUInt16.toUInt32.toInt32)), .unset, .unset, .unset] [(.ref b61)])) (fun t_ k_ => st63 _ k_) ?_
        refine own_go (T63.setTop (mkF m 84 #[.val (.int p0), .val (.int p1), .val (.int p2), .val (.int p3), .val (.int p4), .val (.int (p0 &&& (3 : Int32))), .val (.int ((p3 &&& (255 : Int32)).toUInt32.toUInt16.toUInt32.toInt32)), .unset, .unset, .unset] [(.ref b61), (.ref b61)])) (fun t_ k_ => XS.dup X63.here hx rfl (hb hby at_83) rfl rfl k_) ?_
        refine own_go (T63.setTop (mkF m 85 #[.val (.int p0), .val (.int p1), .val (.int p2), .val (.int p3), .val (.int p4), .val (.int (p0 &&& (3 : Int32))), .val (.int ((p3 &&& (255 : Int32)).toUInt32.toUInt16.toUInt32.toInt32)), .unset, .unset, .unset] [(.int (2 : Int32)), (.ref b61), (.ref b61)])) (fun t_ k_ => XS.iconst X63.here hx rfl (hb hby at_84) k_) ?_
        refine own_go (T63.setTop (mkF m 87 #[.val (.int p0), .val (.int p1), .val (.int p2), .val (.int p3), .val (.int p4), .val (.int (p0 &&& (3 : Int32))), .val (.int ((p3 &&& (255 : Int32)).toUInt32.toUInt16.toUInt32.toInt32)), .unset, .unset, .unset] [(.int (116 : Int32)), (.int (2 : Int32)), (.ref b61), (.ref b61)])) (fun t_ k_ => XS.bipush X63.here hx rfl (hb hby at_85) k_) ?_
        obtain ⟨cl65, Ar65, q65, Sz65, Nz65, Hz65, Gz65⟩ := id (V63)
        have hin65 : ¬ ((2 : Int32) < 0 ∨ cl65.slots.size ≤ ((2 : Int32)).toNatClampNeg) := inb_of Sz65 ⟨by decide, by decide⟩
        obtain ⟨T65, h65, X65, e65, W65, st65⟩ := stC X63 hx hZ e63 Ar65 (j := (2 : Int32)) hin65  (g := (mkF m 87 #[.val (.int p0), .val (.int p1), .val (.int p2), .val (.int p3), .val (.int p4), .val (.int (p0 &&& (3 : Int32))), .val (.int ((p3 &&& (255 : Int32)).toUInt32.toUInt16.toUInt32.toInt32)), .unset, .unset, .unset] [(.int (116 : Int32)), (.int (2 : Int32)), (.ref b61), (.ref b61)])) rfl rfl (hb hby at_87)
        have Fz66 := (Safe.wr W63 Fz64 R62.1 Fz64)
        have R65 := R63.trans (CHr.wr W65 Fz66 R63.1)
        have V65 : Arv Z h65 b61 k61 .char (3 : Int32) [(.int (111 : Int32)), (.int (117 : Int32)), (.int (116 : Int32))] (.int (0 : Int32)) := Arv.set Ar65 q65 Sz65 Nz65 Hz65 Gz65 (by decide) W65 2 rfl (Nat.le_of_ble_eq_true rfl)
        have K65 : Keep h0 h65 [] := K63.wr W65 (Or.inr sz_b61)
        have N65 := Fr.snoc X65 N63 ge_b61
        have O65 := own_extW O63 W65 ge_b61
        refine own_go (T65.setTop (mkF m 88 #[.val (.int p0), .val (.int p1), .val (.int p2), .val (.int p3), .val (.int p4), .val (.int (p0 &&& (3 : Int32))), .val (.int ((p3 &&& (255 : Int32)).toUInt32.toUInt16.toUInt32.toInt32)), .unset, .unset, .unset] [(.ref b61)])) (fun t_ k_ => st65 _ k_) ?_
        refine own_go (T65.setTop (mkF m 90 #[.val (.int p0), .val (.int p1), .val (.int p2), .val (.int p3), .val (.int p4), .val (.int (p0 &&& (3 : Int32))), .val (.int ((p3 &&& (255 : Int32)).toUInt32.toUInt16.toUInt32.toInt32)), .unset, .val (.ref b61), .unset] [])) (fun t_ k_ => XS.astore X65.here hx rfl (hb hby at_88) rfl rfl (l' := #[.val (.int p0), .val (.int p1), .val (.int p2), .val (.int p3), .val (.int p4), .val (.int (p0 &&& (3 : Int32))), .val (.int ((p3 &&& (255 : Int32)).toUInt32.toUInt16.toUInt32.toInt32)), .unset, .val (.ref b61), .unset]) rfl k_) ?_
        refine own_go (T65.setTop (mkF m 113 #[.val (.int p0), .val (.int p1), .val (.int p2), .val (.int p3), .val (.int p4), .val (.int (p0 &&& (3 : Int32))), .val (.int ((p3 &&& (255 : Int32)).toUInt32.toUInt16.toUInt32.toInt32)), .unset, .val (.ref b61), .unset] [])) (fun t_ k_ => XS.goto X65.here hx rfl (pc0 := 90) (pc' := 113) rfl (hb hby at_90) (by decide) (by decide) k_) ?_
        refine own_go (T65.setTop (mkF m 115 #[.val (.int p0), .val (.int p1), .val (.int p2), .val (.int p3), .val (.int p4), .val (.int (p0 &&& (3 : Int32))), .val (.int ((p3 &&& (255 : Int32)).toUInt32.toUInt16.toUInt32.toInt32)), .unset, .val (.ref b61), .unset] [(.ref b61)])) (fun t_ k_ => XS.aload X65.here hx rfl (hb hby at_113) rfl rfl k_) ?_
        refine own_go (T65.setTop (mkF m 116 #[.val (.int p0), .val (.int p1), .val (.int p2), .val (.int p3), .val (.int p4), .val (.int (p0 &&& (3 : Int32))), .val (.int ((p3 &&& (255 : Int32)).toUInt32.toUInt16.toUInt32.toInt32)), .unset, .val (.ref b61), .unset] [(.int p2), (.ref b61)])) (fun t_ k_ => XS.iloadN X65.here hx rfl (hb hby at_115) rfl k_) ?_
        refine own_go (T65.setTop (mkF m 118 #[.val (.int p0), .val (.int p1), .val (.int p2), .val (.int p3), .val (.int p4), .val (.int (p0 &&& (3 : Int32))), .val (.int ((p3 &&& (255 : Int32)).toUInt32.toUInt16.toUInt32.toInt32)), .unset, .val (.ref b61), .unset] [(.int (2147483647 : Int32)), (.int p2), (.ref b61)])) (fun t_ k_ => X65.ldcInt hx hown (mvT hZ (hw _ (List.mem_of_getElem? (i := 0) rfl))) (g := (mkF m 116 #[.val (.int p0), .val (.int p1), .val (.int p2), .val (.int p3), .val (.int p4), .val (.int (p0 &&& (3 : Int32))), .val (.int ((p3 &&& (255 : Int32)).toUInt32.toUInt16.toUInt32.toInt32)), .unset, .val (.ref b61), .unset] [(.int p2), (.ref b61)])) rfl (hb hby at_116) _ k_) ?_
        refine own_go (T65.setTop (mkF m 119 #[.val (.int p0), .val (.int p1), .val (.int p2), .val (.int p3), .val (.int p4), .val (.int (p0 &&& (3 : Int32))), .val (.int ((p3 &&& (255 : Int32)).toUInt32.toUInt16.toUInt32.toInt32)), .unset, .val (.ref b61), .unset] [(.int (p2 &&& (2147483647 : Int32))), (.ref b61)])) (fun t_ k_ => XS.iand X65.here hx rfl (hb hby at_118) rfl k_) ?_
        refine own_go (T65.setTop (mkF m 120 #[.val (.int p0), .val (.int p1), .val (.int p2), .val (.int p3), .val (.int p4), .val (.int (p0 &&& (3 : Int32))), .val (.int ((p3 &&& (255 : Int32)).toUInt32.toUInt16.toUInt32.toInt32)), .unset, .val (.ref b61), .unset] [(.int (3 : Int32)), (.int (p2 &&& (2147483647 : Int32))), (.ref b61)])) (fun t_ k_ => XS.iconst X65.here hx rfl (hb hby at_119) k_) ?_
        refine own_go (T65.setTop (mkF m 121 #[.val (.int p0), .val (.int p1), .val (.int p2), .val (.int p3), .val (.int p4), .val (.int (p0 &&& (3 : Int32))), .val (.int ((p3 &&& (255 : Int32)).toUInt32.toUInt16.toUInt32.toInt32)), .unset, .val (.ref b61), .unset] [(.int ((p2 &&& (2147483647 : Int32)) % (3 : Int32))), (.ref b61)])) (fun t_ k_ => Jvm.RoadKit.iremM X65 hx rfl (hb hby at_120) rfl (by decide) k_) ?_
        obtain ⟨i123, hq_i123⟩ : ∃ z, z = ((p2 &&& (2147483647 : Int32)) % (3 : Int32)) := ⟨_, rfl⟩
        have hi123 : ¬ i123 < 0 ∧ i123 < 3 ∧ i123.toNatClampNeg < 3 := by rw [hq_i123]; exact own_ix3 _
        rw [← hq_i123]
        refine own_go (T65.setTop (mkF m 123 #[.val (.int p0), .val (.int p1), .val (.int p2), .val (.int p3), .val (.int p4), .val (.int (p0 &&& (3 : Int32))), .val (.int ((p3 &&& (255 : Int32)).toUInt32.toUInt16.toUInt32.toInt32)), .unset, .val (.ref b61), .unset] [(.int ((p3 &&& (255 : Int32)).toUInt32.toUInt16.toUInt32.toInt32)), (.int i123), (.ref b61)])) (fun t_ k_ => XS.iload X65.here hx rfl (hb hby at_121) rfl k_) ?_
        obtain ⟨cl67, Ar67, q67, Sz67, Nz67, Hz67, Gz67⟩ := id (V65)
        have hin67 : ¬ (i123 < 0 ∨ cl67.slots.size ≤ (i123).toNatClampNeg) := inb_of Sz67 ⟨hi123.1, hi123.2.1⟩
        obtain ⟨T67, h67, X67, e67, W67, st67⟩ := stC X65 hx hZ e65 Ar67 (j := i123) hin67  (g := (mkF m 123 #[.val (.int p0), .val (.int p1), .val (.int p2), .val (.int p3), .val (.int p4), .val (.int (p0 &&& (3 : Int32))), .val (.int ((p3 &&& (255 : Int32)).toUInt32.toUInt16.toUInt32.toInt32)), .unset, .val (.ref b61), .unset] [(.int ((p3 &&& (255 : Int32)).toUInt32.toUInt16.toUInt32.toInt32)), (.int i123), (.ref b61)])) rfl rfl (hb hby at_123)
        have Fz68 := (Safe.wr W65 Fz66 R63.1 Fz66)
        have R67 := R65.trans (CHr.wr W67 Fz68 R65.1)
        have V67 : Arv Z h67 b61 k61 .char (3 : Int32) ((([111, 117, 116] : List Int32).set i123.toNatClampNeg (nar .char ((p3 &&& (255 : Int32)).toUInt32.toUInt16.toUInt32.toInt32))).map Value.int) (.int 0) := by rw [List.map_set]; exact Arv.set Ar67 q67 Sz67 Nz67 Hz67 Gz67 (fits_nar_char _) W67 _ rfl hi123.2.2
        have K67 : Keep h0 h67 [] := K65.wr W67 (Or.inr sz_b61)
        have N67 := Fr.snoc X67 N65 ge_b61
        have O67 := own_extW O65 W67 ge_b61
        refine own_go (T67.setTop (mkF m 124 #[.val (.int p0), .val (.int p1), .val (.int p2), .val (.int p3), .val (.int p4), .val (.int (p0 &&& (3 : Int32))), .val (.int ((p3 &&& (255 : Int32)).toUInt32.toUInt16.toUInt32.toInt32)), .unset, .val (.ref b61), .unset] [])) (fun t_ k_ => st67 _ k_) ?_
        obtain ⟨T69, h69, X69, e69, E69, A69, D69, U69, st69⟩ := newO X67 hx hZ hown (hw _ (List.mem_of_getElem? (i := 83) rfl)) (hw _ (List.mem_of_getElem? (i := 3) rfl)) (hw _ (List.mem_of_getElem? (i := 2) rfl)) e67 (g := (mkF m 124 #[.val (.int p0), .val (.int p1), .val (.int p2), .val (.int p3), .val (.int p4), .val (.int (p0 &&& (3 : Int32))), .val (.int ((p3 &&& (255 : Int32)).toUInt32.toUInt16.toUInt32.toInt32)), .unset, .val (.ref b61), .unset] [])) rfl (hb hby at_124) (by decide) (by decide)
        obtain ⟨b69, g69⟩ : ∃ z, z = h67.size := ⟨_, rfl⟩
        rw [← g69] at A69 D69 U69 st69
        have ge_b69 : Z.heap.size ≤ b69 := Nat.le_trans O67.1 (Nat.le_of_eq g69.symm)
        have sz_b69 : h0.size ≤ b69 := Nat.le_trans K67.1 (Nat.le_of_eq g69.symm)
        have R69 := R67.trans (CHr.ext E69 R67.1)
        have Sf69 := Safe.ext (x := b69) E69 R67.1 (Safe.new (Nat.le_of_eq g69.symm))
        have K69 : Keep h0 h69 [] := K67.ext E69
        have O69 := own_ext O67 E69
        have Fvalue_69 : Fld Z h69 b69 "java/lang/String" "value" "[B" .null := D69 (Or.inr (hw _ (List.mem_of_getElem? (i := 5) rfl))) (ty := (.array .byte)) (by decide)
        have Fcoder_69 : Fld Z h69 b69 "java/lang/String" "coder" "B" (.int (0 : Int32)) := D69 (Or.inr (hw _ (List.mem_of_getElem? (i := 6) rfl))) (ty := .byte) (by decide)
        refine own_go (T69.setTop (mkF m 127 #[.val (.int p0), .val (.int p1), .val (.int p2), .val (.int p3), .val (.int p4), .val (.int (p0 &&& (3 : Int32))), .val (.int ((p3 &&& (255 : Int32)).toUInt32.toUInt16.toUInt32.toInt32)), .unset, .val (.ref b61), .unset] [(.ref b69)])) (fun t_ k_ => st69 _ k_) ?_
        refine own_go (T69.setTop (mkF m 128 #[.val (.int p0), .val (.int p1), .val (.int p2), .val (.int p3), .val (.int p4), .val (.int (p0 &&& (3 : Int32))), .val (.int ((p3 &&& (255 : Int32)).toUInt32.toUInt16.toUInt32.toInt32)), .unset, .val (.ref b61), .unset] [(.ref b69), (.ref b69)])) (fun t_ k_ => XS.dup X69.here hx rfl (hb hby at_127) rfl rfl k_) ?_
        refine own_go (T69.setTop (mkF m 130 #[.val (.int p0), .val (.int p1), .val (.int p2), .val (.int p3), .val (.int p4), .val (.int (p0 &&& (3 : Int32))), .val (.int ((p3 &&& (255 : Int32)).toUInt32.toUInt16.toUInt32.toInt32)), .unset, .val (.ref b61), .unset] [(.ref b61), (.ref b69), (.ref b69)])) (fun t_ k_ => XS.aload X69.here hx rfl (hb hby at_128) rfl rfl k_) ?_
        have hp70 : ∀ c ∈ (([111, 117, 116] : List Int32).set i123.toNatClampNeg (nar .char ((p3 &&& (255 : Int32)).toUInt32.toUInt16.toUInt32.toInt32))), ¬ c < 0 ∧ ¬ (255 : Int32) < c := (own_set ([111, 117, 116] : List Int32) (by decide +kernel) _ _ (own_c255 p3))
        have Fz71 := (V67.ext E69)
        obtain ⟨_, _, ⟨T72, Lu72, ku72, nu72⟩, -, X72, ⟨Lc72, hQ72, lu72, yu72, zu72⟩, st72⟩ := X69.specialBack hx (y := (⟨"java/lang/String", "<init>", "([C)V"⟩ : MethodName)) rfl hown (mvT hZ (hw _ (List.mem_of_getElem? (i := 84) rfl))) (mvT hZ (hw _ (List.mem_of_getElem? (i := 85) rfl))) (mvT hZ (hw _ (List.mem_of_getElem? (i := 86) rfl))) (by decide) (StrChars.Road.backV (W := 1) hZ (fun d hd => hw d (own_words d hd)) (kI := 4) (hw _ (List.mem_of_getElem? (i := 3) rfl)) (cs := (([111, 117, 116] : List Int32).set i123.toNatClampNeg (nar .char ((p3 &&& (255 : Int32)).toUInt32.toUInt16.toUInt32.toInt32)))) (bs := ((([111, 117, 116] : List Int32).set i123.toNatClampNeg (nar .char ((p3 &&& (255 : Int32)).toUInt32.toUInt16.toUInt32.toInt32)))).map (fun c => c.toInt8.toInt32)) (n := 3) (n0 := Z.heap.size) ge_b69 (O69.1) A69 Fvalue_69 Fcoder_69 Fz71 (S_CS.ext O69) n_CS (by simp) rfl (by decide) (by decide) hp70 rfl (by decide) (by decide)) (g := (mkF m 130 #[.val (.int p0), .val (.int p1), .val (.int p2), .val (.int p3), .val (.int p4), .val (.int (p0 &&& (3 : Int32))), .val (.int ((p3 &&& (255 : Int32)).toUInt32.toUInt16.toUInt32.toInt32)), .unset, .val (.ref b61), .unset] [(.ref b61), (.ref b69), (.ref b69)])) rfl (by rw [hml]; rfl) (Steps.refl _) (a := b69) (argsL := [(.ref b61)]) (rest := [(.ref b69)]) (lenOf own_pd7 rfl) rfl (by show 2 * 0 + _ ≤ _; exact Nat.le_of_eq rfl) (hb hby at_130) (fun _ _ => ⟨rfl, e69, (by decide : 2 + 1 ≤ _), (by decide : 7 + 3 ≤ _)⟩)
        dsimp only [Pt.U, Pt.locs, Pt.cells, Pt.slots] at X72 lu72 yu72 zu72 st72 hQ72
        subst lu72 yu72 zu72
        obtain ⟨rfl, N72q, K72q, X72q, C72q, t72, kb72, u1_72, u2_72, u3_72, V72q, A72q⟩ := hQ72
        have N72 := Fr.app N67 N72q
        have O72 := own_extK O69 K72q (allS ge_b69 all0)
        have KK72 : Keep h0 T72.heap [] := K69.trans K72q (allS (Or.inr sz_b69) all0)
        have R72 := R69.trans (CHr.keep K72q (allS Sf69 all0) R69.1)
        refine own_go (T72.setTop (mkF m 133 #[.val (.int p0), .val (.int p1), .val (.int p2), .val (.int p3), .val (.int p4), .val (.int (p0 &&& (3 : Int32))), .val (.int ((p3 &&& (255 : Int32)).toUInt32.toUInt16.toUInt32.toInt32)), .unset, .val (.ref b61), .unset] [(.ref b69)])) (fun t_ k_ => st72.trans k_) ?_
        refine own_go (T72.setTop (mkF m 135 #[.val (.int p0), .val (.int p1), .val (.int p2), .val (.int p3), .val (.int p4), .val (.int (p0 &&& (3 : Int32))), .val (.int ((p3 &&& (255 : Int32)).toUInt32.toUInt16.toUInt32.toInt32)), .val (.ref b69), .val (.ref b61), .unset] [])) (fun t_ k_ => XS.astore X72.here hx rfl (hb hby at_133) rfl rfl (l' := #[.val (.int p0), .val (.int p1), .val (.int p2), .val (.int p3), .val (.int p4), .val (.int (p0 &&& (3 : Int32))), .val (.int ((p3 &&& (255 : Int32)).toUInt32.toUInt16.toUInt32.toInt32)), .val (.ref b69), .val (.ref b61), .unset]) rfl k_) ?_
        refine own_go (T72.setTop (mkF m 258 #[.val (.int p0), .val (.int p1), .val (.int p2), .val (.int p3), .val (.int p4), .val (.int (p0 &&& (3 : Int32))), .val (.int ((p3 &&& (255 : Int32)).toUInt32.toUInt16.toUInt32.toInt32)), .val (.ref b69), .val (.ref b61), .unset] [])) (fun t_ k_ => XS.goto X72.here hx rfl (pc0 := 135) (pc' := 258) rfl (hb hby at_135) (by decide) (by decide) k_) ?_
        exact J1 _ _ _ hS (Nat.le_trans (Nat.le_trans (Nat.le_trans (Nat.le_trans (Nat.le_trans (Nat.le_trans (Nat.le_trans hk E61.1) (Keep.of_wr W62).1) (Keep.of_wr W63).1) (Keep.of_wr W65).1) (Keep.of_wr W67).1) E69.1) K72q.1) hZ hown _ _ (X72.more (by decide) (by decide)) N72 rfl O72 KK72 R72 (b69) (t72) (kb72) ((([111, 117, 116] : List Int32).set i123.toNatClampNeg (nar .char ((p3 &&& (255 : Int32)).toUInt32.toUInt16.toUInt32.toInt32)))) (.val (.ref b61)) (hp70) (by first | decide | exact Nat.le_of_ble_eq_true rfl | simp | exact trivial) (One.val rfl) X72q V72q C72q (by rw [List.length_set]; exact A72q)
      ·
        refine own_go (s₁.setTop (mkF m 93 #[.val (.int p0), .val (.int p1), .val (.int p2), .val (.int p3), .val (.int p4), .val (.int (p0 &&& (3 : Int32))), .val (.int ((p3 &&& (255 : Int32)).toUInt32.toUInt16.toUInt32.toInt32)), .unset, .unset, .unset] [])) (fun t_ k_ => XS.ifYes X0.here hx rfl (pc0 := 67) (pc' := 93) rfl (hb hby at_67) rfl ((if0 _ _).trans (feq hc67_60).2) (by decide) (by decide) k_) ?_
        refine own_go (s₁.setTop (mkF m 94 #[.val (.int p0), .val (.int p1), .val (.int p2), .val (.int p3), .val (.int p4), .val (.int (p0 &&& (3 : Int32))), .val (.int ((p3 &&& (255 : Int32)).toUInt32.toUInt16.toUInt32.toInt32)), .unset, .unset, .unset] [(.int (3 : Int32))])) (fun t_ k_ => XS.iconst X0.here hx rfl (hb hby at_93) k_) ?_
        obtain ⟨T73, h73, k73, X73, e73, E73, A73, st73⟩ := newP X0 hx hZ (hw _ (List.mem_of_getElem? (i := 82) rfl)) e0 (g := (mkF m 94 #[.val (.int p0), .val (.int p1), .val (.int p2), .val (.int p3), .val (.int p4), .val (.int (p0 &&& (3 : Int32))), .val (.int ((p3 &&& (255 : Int32)).toUInt32.toUInt16.toUInt32.toInt32)), .unset, .unset, .unset] [(.int (3 : Int32))])) rfl (hb hby at_94) rfl (by decide) (cap := 3) (by decide) (by decide) (by decide) (by decide)
        obtain ⟨b73, g73⟩ : ∃ z, z = h0.size := ⟨_, rfl⟩
        rw [← g73] at A73 st73
        have ge_b73 : Z.heap.size ≤ b73 := Nat.le_trans O.1 (Nat.le_of_eq g73.symm)
        have sz_b73 : h0.size ≤ b73 := Nat.le_trans (Keep.refl h0 []).1 (Nat.le_of_eq g73.symm)
        have R73 := R0.trans (CHr.ext E73 R0.1)
        have Sf73 := Safe.ext (x := b73) E73 R0.1 (Safe.new (Nat.le_of_eq g73.symm))
        have K73 : Keep h0 h73 [] := (Keep.refl h0 []).ext E73
        have O73 := own_ext O E73
        have V73 : Arv Z h73 b73 k73 .char (3 : Int32) [(.int (0 : Int32)), (.int (0 : Int32)), (.int (0 : Int32))] (.int (0 : Int32)) := (Arv.new A73 (by decide)).pad (pad_rep [] (.int (0 : Int32)) 3)
        refine own_go (T73.setTop (mkF m 96 #[.val (.int p0), .val (.int p1), .val (.int p2), .val (.int p3), .val (.int p4), .val (.int (p0 &&& (3 : Int32))), .val (.int ((p3 &&& (255 : Int32)).toUInt32.toUInt16.toUInt32.toInt32)), .unset, .unset, .unset] [(.ref b73)])) (fun t_ k_ => st73 _ k_) ?_
        refine own_go (T73.setTop (mkF m 97 #[.val (.int p0), .val (.int p1), .val (.int p2), .val (.int p3), .val (.int p4), .val (.int (p0 &&& (3 : Int32))), .val (.int ((p3 &&& (255 : Int32)).toUInt32.toUInt16.toUInt32.toInt32)), .unset, .unset, .unset] [(.ref b73), (.ref b73)])) (fun t_ k_ => XS.dup X73.here hx rfl (hb hby at_96) rfl rfl k_) ?_
        refine own_go (T73.setTop (mkF m 98 #[.val (.int p0), .val (.int p1), .val (.int p2), .val (.int p3), .val (.int p4), .val (.int (p0 &&& (3 : Int32))), .val (.int ((p3 &&& (255 : Int32)).toUInt32.toUInt16.toUInt32.toInt32)), .unset, .unset, .unset] [(.int (0 : Int32)), (.ref b73), (.ref b73)])) (fun t_ k_ => XS.iconst X73.here hx rfl (hb hby at_97) k_) ?_
        refine own_go (T73.setTop (mkF m 100 #[.val (.int p0), .val (.int p1), .val (.int p2), .val (.int p3), .val (.int p4), .val (.int (p0 &&& (3 : Int32))), .val (.int ((p3 &&& (255 : Int32)).toUInt32.toUInt16.toUInt32.toInt32)), .unset, .unset, .unset] [(.int (105 : Int32)), (.int (0 : Int32)), (.ref b73), (.ref b73)])) (fun t_ k_ => XS.bipush X73.here hx rfl (hb hby at_98) k_) ?_
        obtain ⟨cl74, Ar74, q74, Sz74, Nz74, Hz74, Gz74⟩ := id (V73)
        have hin74 : ¬ ((0 : Int32) < 0 ∨ cl74.slots.size ≤ ((0 : Int32)).toNatClampNeg) := inb_of Sz74 ⟨by decide, by decide⟩
        obtain ⟨T74, h74, X74, e74, W74, st74⟩ := stC X73 hx hZ e73 Ar74 (j := (0 : Int32)) hin74  (g := (mkF m 100 #[.val (.int p0), .val (.int p1), .val (.int p2), .val (.int p3), .val (.int p4), .val (.int (p0 &&& (3 : Int32))), .val (.int ((p3 &&& (255 : Int32)).toUInt32.toUInt16.toUInt32.toInt32)), .unset, .unset, .unset] [(.int (105 : Int32)), (.int (0 : Int32)), (.ref b73), (.ref b73)])) rfl rfl (hb hby at_100)
        have R74 := R73.trans (CHr.wr W74 Sf73 R73.1)
        have V74 : Arv Z h74 b73 k73 .char (3 : Int32) [(.int (105 : Int32)), (.int (0 : Int32)), (.int (0 : Int32))] (.int (0 : Int32)) := Arv.set Ar74 q74 Sz74 Nz74 Hz74 Gz74 (by decide) W74 0 rfl (Nat.le_of_ble_eq_true rfl)
        have K74 : Keep h0 h74 [] := K73.wr W74 (Or.inr sz_b73)
        have N74 := Fr.snoc X74 N0 ge_b73
        have O74 := own_extW O73 W74 ge_b73
        refine own_go (T74.setTop (mkF m 101 #[.val (.int p0), .val (.int p1), .val (.int p2), .val (.int p3), .val (.int p4), .val (.int (p0 &&& (3 : Int32))), .val (.int ((p3 &&& (255 : Int32)).toUInt32.toUInt16.toUInt32.toInt32)), .unset, .unset, .unset] [(.ref b73)])) (fun t_ k_ => st74 _ k_) ?_
        refine own_go (T74.setTop (mkF m 102 #[.val (.int p0), .val (.int p1), .val (.int p2), .val (.int p3), .val (.int p4), .val (.int (p0 &&& (3 : Int32))), .val (.int ((p3 &&& (255 : Int32)).toUInt32.toUInt16.toUInt32.toInt32)), .unset, .unset, .unset] [(.ref b73), (.ref b73)])) (fun t_ k_ => XS.dup X74.here hx rfl (hb hby at_101) rfl rfl k_) ?_
        refine own_go (T74.setTop (mkF m 103 #[.val (.int p0), .val (.int p1), .val (.int p2), .val (.int p3), .val (.int p4), .val (.int (p0 &&& (3 : Int32))), .val (.int ((p3 &&& (255 : Int32)).toUInt32.toUInt16.toUInt32.toInt32)), .unset, .unset, .unset] [(.int (1 : Int32)), (.ref b73), (.ref b73)])) (fun t_ k_ => XS.iconst X74.here hx rfl (hb hby at_102) k_) ?_
        refine own_go (T74.setTop (mkF m 105 #[.val (.int p0), .val (.int p1), .val (.int p2), .val (.int p3), .val (.int p4), .val (.int (p0 &&& (3 : Int32))), .val (.int ((p3 &&& (255 : Int32)).toUInt32.toUInt16.toUInt32.toInt32)), .unset, .unset, .unset] [(.int (110 : Int32)), (.int (1 : Int32)), (.ref b73), (.ref b73)])) (fun t_ k_ => XS.bipush X74.here hx rfl (hb hby at_103) k_) ?_
        obtain ⟨cl75, Ar75, q75, Sz75, Nz75, Hz75, Gz75⟩ := id (V74)
        have hin75 : ¬ ((1 : Int32) < 0 ∨ cl75.slots.size ≤ ((1 : Int32)).toNatClampNeg) := inb_of Sz75 ⟨by decide, by decide⟩
        obtain ⟨T75, h75, X75, e75, W75, st75⟩ := stC X74 hx hZ e74 Ar75 (j := (1 : Int32)) hin75  (g := (mkF m 105 #[.val (.int p0), .val (.int p1), .val (.int p2), .val (.int p3), .val (.int p4), .val (.int (p0 &&& (3 : Int32))), .val (.int ((p3 &&& (255 : Int32)).toUInt32.toUInt16.toUInt32.toInt32)), .unset, .unset, .unset] [(.int (110 : Int32)), (.int (1 : Int32)), (.ref b73), (.ref b73)])) rfl rfl (hb hby at_105)
        have Fz76 := (Safe.wr W74 Sf73 R73.1 Sf73)
        have R75 := R74.trans (CHr.wr W75 Fz76 R74.1)
        have V75 : Arv Z h75 b73 k73 .char (3 : Int32) [(.int (105 : Int32)), (.int (110 : Int32)), (.int (0 : Int32))] (.int (0 : Int32)) := Arv.set Ar75 q75 Sz75 Nz75 Hz75 Gz75 (by decide) W75 1 rfl (Nat.le_of_ble_eq_true rfl)
        have K75 : Keep h0 h75 [] := K74.wr W75 (Or.inr sz_b73)
        have N75 := Fr.snoc X75 N74 ge_b73
        have O75 := own_extW O74 W75 ge_b73
        refine own_go (T75.setTop (mkF m 106 #[.val (.int p0), .val (.int p1), .val (.int p2), .val (.int p3), .val (.int p4), .val (.int (p0 &&& (3 : Int32))), .val (.int ((p3 &&& (255 : Int32)).toUInt32.toUInt16.toUInt32.toInt32)), .unset, .unset, .unset] [(.ref b73)])) (fun t_ k_ => st75 _ k_) ?_
        refine own_go (T75.setTop (mkF m 107 #[.val (.int p0), .val (.int p1), .val (.int p2), .val (.int p3), .val (.int p4), .val (.int (p0 &&& (3 : Int32))), .val (.int ((p3 &&& (255 : Int32)).toUInt32.toUInt16.toUInt32.toInt32)), .unset, .unset, .unset] [(.ref b73), (.ref b73)])) (fun t_ k_ => XS.dup X75.here hx rfl (hb hby at_106) rfl rfl k_) ?_
        refine own_go (T75.setTop (mkF m 108 #[.val (.int p0), .val (.int p1), .val (.int p2), .val (.int p3), .val (.int p4), .val (.int (p0 &&& (3 : Int32))), .val (.int ((p3 &&& (255 : Int32)).toUInt32.toUInt16.toUInt32.toInt32)), .unset, .unset, .unset] [(.int (2 : Int32)), (.ref b73), (.ref b73)])) (fun t_ k_ => XS.iconst X75.here hx rfl (hb hby at_107) k_) ?_
        refine own_go (T75.setTop (mkF m 110 #[.val (.int p0), .val (.int p1), .val (.int p2), .val (.int p3), .val (.int p4), .val (.int (p0 &&& (3 : Int32))), .val (.int ((p3 &&& (255 : Int32)).toUInt32.toUInt16.toUInt32.toInt32)), .unset, .unset, .unset] [(.int (112 : Int32)), (.int (2 : Int32)), (.ref b73), (.ref b73)])) (fun t_ k_ => XS.bipush X75.here hx rfl (hb hby at_108) k_) ?_
        obtain ⟨cl77, Ar77, q77, Sz77, Nz77, Hz77, Gz77⟩ := id (V75)
        have hin77 : ¬ ((2 : Int32) < 0 ∨ cl77.slots.size ≤ ((2 : Int32)).toNatClampNeg) := inb_of Sz77 ⟨by decide, by decide⟩
        obtain ⟨T77, h77, X77, e77, W77, st77⟩ := stC X75 hx hZ e75 Ar77 (j := (2 : Int32)) hin77  (g := (mkF m 110 #[.val (.int p0), .val (.int p1), .val (.int p2), .val (.int p3), .val (.int p4), .val (.int (p0 &&& (3 : Int32))), .val (.int ((p3 &&& (255 : Int32)).toUInt32.toUInt16.toUInt32.toInt32)), .unset, .unset, .unset] [(.int (112 : Int32)), (.int (2 : Int32)), (.ref b73), (.ref b73)])) rfl rfl (hb hby at_110)
        have Fz78 := (Safe.wr W75 Fz76 R74.1 Fz76)
        have R77 := R75.trans (CHr.wr W77 Fz78 R75.1)
        have V77 : Arv Z h77 b73 k73 .char (3 : Int32) [(.int (105 : Int32)), (.int (110 : Int32)), (.int (112 : Int32))] (.int (0 : Int32)) := Arv.set Ar77 q77 Sz77 Nz77 Hz77 Gz77 (by decide) W77 2 rfl (Nat.le_of_ble_eq_true rfl)
        have K77 : Keep h0 h77 [] := K75.wr W77 (Or.inr sz_b73)
        have N77 := Fr.snoc X77 N75 ge_b73
        have O77 := own_extW O75 W77 ge_b73
        refine own_go (T77.setTop (mkF m 111 #[.val (.int p0), .val (.int p1), .val (.int p2), .val (.int p3), .val (.int p4), .val (.int (p0 &&& (3 : Int32))), .val (.int ((p3 &&& (255 : Int32)).toUInt32.toUInt16.toUInt32.toInt32)), .unset, .unset, .unset] [(.ref b73)])) (fun t_ k_ => st77 _ k_) ?_
        refine own_go (T77.setTop (mkF m 113 #[.val (.int p0), .val (.int p1), .val (.int p2), .val (.int p3), .val (.int p4), .val (.int (p0 &&& (3 : Int32))), .val (.int ((p3 &&& (255 : Int32)).toUInt32.toUInt16.toUInt32.toInt32)), .unset, .val (.ref b73), .unset] [])) (fun t_ k_ => XS.astore X77.here hx rfl (hb hby at_111) rfl rfl (l' := #[.val (.int p0), .val (.int p1), .val (.int p2), .val (.int p3), .val (.int p4), .val (.int (p0 &&& (3 : Int32))), .val (.int ((p3 &&& (255 : Int32)).toUInt32.toUInt16.toUInt32.toInt32)), .unset, .val (.ref b73), .unset]) rfl k_) ?_
        refine own_go (T77.setTop (mkF m 115 #[.val (.int p0), .val (.int p1), .val (.int p2), .val (.int p3), .val (.int p4), .val (.int (p0 &&& (3 : Int32))), .val (.int ((p3 &&& (255 : Int32)).toUInt32.toUInt16.toUInt32.toInt32)), .unset, .val (.ref b73), .unset] [(.ref b73)])) (fun t_ k_ => XS.aload X77.here hx rfl (hb hby at_113) rfl rfl k_) ?_
        refine own_go (T77.setTop (mkF m 116 #[.val (.int p0), .val (.int p1), .val (.int p2), .val (.int p3), .val (.int p4), .val (.int (p0 &&& (3 : Int32))), .val (.int ((p3 &&& (255 : Int32)).toUInt32.toUInt16.toUInt32.toInt32)), .unset, .val (.ref b73), .unset] [(.int p2), (.ref b73)])) (fun t_ k_ => XS.iloadN X77.here hx rfl (hb hby at_115) rfl k_) ?_
        refine own_go (T77.setTop (mkF m 118 #[.val (.int p0), .val (.int p1), .val (.int p2), .val (.int p3), .val (.int p4), .val (.int (p0 &&& (3 : Int32))), .val (.int ((p3 &&& (255 : Int32)).toUInt32.toUInt16.toUInt32.toInt32)), .unset, .val (.ref b73), .unset] [(.int (2147483647 : Int32)), (.int p2), (.ref b73)])) (fun t_ k_ => X77.ldcInt hx hown (mvT hZ (hw _ (List.mem_of_getElem? (i := 0) rfl))) (g := (mkF m 116 #[.val (.int p0), .val (.int p1), .val (.int p2), .val (.int p3), .val (.int p4), .val (.int (p0 &&& (3 : Int32))), .val (.int ((p3 &&& (255 : Int32)).toUInt32.toUInt16.toUInt32.toInt32)), .unset, .val (.ref b73), .unset] [(.int p2), (.ref b73)])) rfl (hb hby at_116) _ k_) ?_
        refine own_go (T77.setTop (mkF m 119 #[.val (.int p0), .val (.int p1), .val (.int p2), .val (.int p3), .val (.int p4), .val (.int (p0 &&& (3 : Int32))), .val (.int ((p3 &&& (255 : Int32)).toUInt32.toUInt16.toUInt32.toInt32)), .unset, .val (.ref b73), .unset] [(.int (p2 &&& (2147483647 : Int32))), (.ref b73)])) (fun t_ k_ => XS.iand X77.here hx rfl (hb hby at_118) rfl k_) ?_
        refine own_go (T77.setTop (mkF m 120 #[.val (.int p0), .val (.int p1), .val (.int p2), .val (.int p3), .val (.int p4), .val (.int (p0 &&& (3 : Int32))), .val (.int ((p3 &&& (255 : Int32)).toUInt32.toUInt16.toUInt32.toInt32)), .unset, .val (.ref b73), .unset] [(.int (3 : Int32)), (.int (p2 &&& (2147483647 : Int32))), (.ref b73)])) (fun t_ k_ => XS.iconst X77.here hx rfl (hb hby at_119) k_) ?_
        refine own_go (T77.setTop (mkF m 121 #[.val (.int p0), .val (.int p1), .val (.int p2), .val (.int p3), .val (.int p4), .val (.int (p0 &&& (3 : Int32))), .val (.int ((p3 &&& (255 : Int32)).toUInt32.toUInt16.toUInt32.toInt32)), .unset, .val (.ref b73), .unset] [(.int ((p2 &&& (2147483647 : Int32)) % (3 : Int32))), (.ref b73)])) (fun t_ k_ => Jvm.RoadKit.iremM X77 hx rfl (hb hby at_120) rfl (by decide) k_) ?_
        obtain ⟨i123, hq_i123⟩ : ∃ z, z = ((p2 &&& (2147483647 : Int32)) % (3 : Int32)) := ⟨_, rfl⟩
        have hi123 : ¬ i123 < 0 ∧ i123 < 3 ∧ i123.toNatClampNeg < 3 := by rw [hq_i123]; exact own_ix3 _
        rw [← hq_i123]
        refine own_go (T77.setTop (mkF m 123 #[.val (.int p0), .val (.int p1), .val (.int p2), .val (.int p3), .val (.int p4), .val (.int (p0 &&& (3 : Int32))), .val (.int ((p3 &&& (255 : Int32)).toUInt32.toUInt16.toUInt32.toInt32)), .unset, .val (.ref b73), .unset] [(.int ((p3 &&& (255 : Int32)).toUInt32.toUInt16.toUInt32.toInt32)), (.int i123), (.ref b73)])) (fun t_ k_ => XS.iload X77.here hx rfl (hb hby at_121) rfl k_) ?_
        obtain ⟨cl79, Ar79, q79, Sz79, Nz79, Hz79, Gz79⟩ := id (V77)
        have hin79 : ¬ (i123 < 0 ∨ cl79.slots.size ≤ (i123).toNatClampNeg) := inb_of Sz79 ⟨hi123.1, hi123.2.1⟩
        obtain ⟨T79, h79, X79, e79, W79, st79⟩ := stC X77 hx hZ e77 Ar79 (j := i123) hin79  (g := (mkF m 123 #[.val (.int p0), .val (.int p1), .val (.int p2), .val (.int p3), .val (.int p4), .val (.int (p0 &&& (3 : Int32))), .val (.int ((p3 &&& (255 : Int32)).toUInt32.toUInt16.toUInt32.toInt32)), .unset, .val (.ref b73), .unset] [(.int ((p3 &&& (255 : Int32)).toUInt32.toUInt16.toUInt32.toInt32)), (.int i123), (.ref b73)])) rfl rfl (hb hby at_123)
        have Fz80 := (Safe.wr W77 Fz78 R75.1 Fz78)
        have R79 := R77.trans (CHr.wr W79 Fz80 R77.1)
        have V79 : Arv Z h79 b73 k73 .char (3 : Int32) ((([105, 110, 112] : List Int32).set i123.toNatClampNeg (nar .char ((p3 &&& (255 : Int32)).toUInt32.toUInt16.toUInt32.toInt32))).map Value.int) (.int 0) := by rw [List.map_set]; exact Arv.set Ar79 q79 Sz79 Nz79 Hz79 Gz79 (fits_nar_char _) W79 _ rfl hi123.2.2
        have K79 : Keep h0 h79 [] := K77.wr W79 (Or.inr sz_b73)
        have N79 := Fr.snoc X79 N77 ge_b73
        have O79 := own_extW O77 W79 ge_b73
        refine own_go (T79.setTop (mkF m 124 #[.val (.int p0), .val (.int p1), .val (.int p2), .val (.int p3), .val (.int p4), .val (.int (p0 &&& (3 : Int32))), .val (.int ((p3 &&& (255 : Int32)).toUInt32.toUInt16.toUInt32.toInt32)), .unset, .val (.ref b73), .unset] [])) (fun t_ k_ => st79 _ k_) ?_
        obtain ⟨T81, h81, X81, e81, E81, A81, D81, U81, st81⟩ := newO X79 hx hZ hown (hw _ (List.mem_of_getElem? (i := 83) rfl)) (hw _ (List.mem_of_getElem? (i := 3) rfl)) (hw _ (List.mem_of_getElem? (i := 2) rfl)) e79 (g := (mkF m 124 #[.val (.int p0), .val (.int p1), .val (.int p2), .val (.int p3), .val (.int p4), .val (.int (p0 &&& (3 : Int32))), .val (.int ((p3 &&& (255 : Int32)).toUInt32.toUInt16.toUInt32.toInt32)), .unset, .val (.ref b73), .unset] [])) rfl (hb hby at_124) (by decide) (by decide)
        obtain ⟨b81, g81⟩ : ∃ z, z = h79.size := ⟨_, rfl⟩
        rw [← g81] at A81 D81 U81 st81
        have ge_b81 : Z.heap.size ≤ b81 := Nat.le_trans O79.1 (Nat.le_of_eq g81.symm)
        have sz_b81 : h0.size ≤ b81 := Nat.le_trans K79.1 (Nat.le_of_eq g81.symm)
        have R81 := R79.trans (CHr.ext E81 R79.1)
        have Sf81 := Safe.ext (x := b81) E81 R79.1 (Safe.new (Nat.le_of_eq g81.symm))
        have K81 : Keep h0 h81 [] := K79.ext E81
        have O81 := own_ext O79 E81
        have Fvalue_81 : Fld Z h81 b81 "java/lang/String" "value" "[B" .null := D81 (Or.inr (hw _ (List.mem_of_getElem? (i := 5) rfl))) (ty := (.array .byte)) (by decide)
        have Fcoder_81 : Fld Z h81 b81 "java/lang/String" "coder" "B" (.int (0 : Int32)) := D81 (Or.inr (hw _ (List.mem_of_getElem? (i := 6) rfl))) (ty := .byte) (by decide)
        refine own_go (T81.setTop (mkF m 127 #[.val (.int p0), .val (.int p1), .val (.int p2), .val (.int p3), .val (.int p4), .val (.int (p0 &&& (3 : Int32))), .val (.int ((p3 &&& (255 : Int32)).toUInt32.toUInt16.toUInt32.toInt32)), .unset, .val (.ref b73), .unset] [(.ref b81)])) (fun t_ k_ => st81 _ k_) ?_
        refine own_go (T81.setTop (mkF m 128 #[.val (.int p0), .val (.int p1), .val (.int p2), .val (.int p3), .val (.int p4), .val (.int (p0 &&& (3 : Int32))), .val (.int ((p3 &&& (255 : Int32)).toUInt32.toUInt16.toUInt32.toInt32)), .unset, .val (.ref b73), .unset] [(.ref b81), (.ref b81)])) (fun t_ k_ => XS.dup X81.here hx rfl (hb hby at_127) rfl rfl k_) ?_
        refine own_go (T81.setTop (mkF m 130 #[.val (.int p0), .val (.int p1), .val (.int p2), .val (.int p3), .val (.int p4), .val (.int (p0 &&& (3 : Int32))), .val (.int ((p3 &&& (255 : Int32)).toUInt32.toUInt16.toUInt32.toInt32)), .unset, .val (.ref b73), .unset] [(.ref b73), (.ref b81), (.ref b81)])) (fun t_ k_ => XS.aload X81.here hx rfl (hb hby at_128) rfl rfl k_) ?_
        have hp82 : ∀ c ∈ (([105, 110, 112] : List Int32).set i123.toNatClampNeg (nar .char ((p3 &&& (255 : Int32)).toUInt32.toUInt16.toUInt32.toInt32))), ¬ c < 0 ∧ ¬ (255 : Int32) < c := (own_set ([105, 110, 112] : List Int32) (by decide +kernel) _ _ (own_c255 p3))
        have Fz83 := (V79.ext E81)
        obtain ⟨_, _, ⟨T84, Lu84, ku84, nu84⟩, -, X84, ⟨Lc84, hQ84, lu84, yu84, zu84⟩, st84⟩ := X81.specialBack hx (y := (⟨"java/lang/String", "<init>", "([C)V"⟩ : MethodName)) rfl hown (mvT hZ (hw _ (List.mem_of_getElem? (i := 84) rfl))) (mvT hZ (hw _ (List.mem_of_getElem? (i := 85) rfl))) (mvT hZ (hw _ (List.mem_of_getElem? (i := 86) rfl))) (by decide) (StrChars.Road.backV (W := 1) hZ (fun d hd => hw d (own_words d hd)) (kI := 4) (hw _ (List.mem_of_getElem? (i := 3) rfl)) (cs := (([105, 110, 112] : List Int32).set i123.toNatClampNeg (nar .char ((p3 &&& (255 : Int32)).toUInt32.toUInt16.toUInt32.toInt32)))) (bs := ((([105, 110, 112] : List Int32).set i123.toNatClampNeg (nar .char ((p3 &&& (255 : Int32)).toUInt32.toUInt16.toUInt32.toInt32)))).map (fun c => c.toInt8.toInt32)) (n := 3) (n0 := Z.heap.size) ge_b81 (O81.1) A81 Fvalue_81 Fcoder_81 Fz83 (S_CS.ext O81) n_CS (by simp) rfl (by decide) (by decide) hp82 rfl (by decide) (by decide)) (g := (mkF m 130 #[.val (.int p0), .val (.int p1), .val (.int p2), .val (.int p3), .val (.int p4), .val (.int (p0 &&& (3 : Int32))), .val (.int ((p3 &&& (255 : Int32)).toUInt32.toUInt16.toUInt32.toInt32)), .unset, .val (.ref b73), .unset] [(.ref b73), (.ref b81), (.ref b81)])) rfl (by rw [hml]; rfl) (Steps.refl _) (a := b81) (argsL := [(.ref b73)]) (rest := [(.ref b81)]) (lenOf own_pd7 rfl) rfl (by show 2 * 0 + _ ≤ _; exact Nat.le_of_eq rfl) (hb hby at_130) (fun _ _ => ⟨rfl, e81, (by decide : 2 + 1 ≤ _), (by decide : 7 + 3 ≤ _)⟩)
        dsimp only [Pt.U, Pt.locs, Pt.cells, Pt.slots] at X84 lu84 yu84 zu84 st84 hQ84
        subst lu84 yu84 zu84
        obtain ⟨rfl, N84q, K84q, X84q, C84q, t84, kb84, u1_84, u2_84, u3_84, V84q, A84q⟩ := hQ84
        have N84 := Fr.app N79 N84q
        have O84 := own_extK O81 K84q (allS ge_b81 all0)
        have KK84 : Keep h0 T84.heap [] := K81.trans K84q (allS (Or.inr sz_b81) all0)
        have R84 := R81.trans (CHr.keep K84q (allS Sf81 all0) R81.1)
        refine own_go (T84.setTop (mkF m 133 #[.val (.int p0), .val (.int p1), .val (.int p2), .val (.int p3), .val (.int p4), .val (.int (p0 &&& (3 : Int32))), .val (.int ((p3 &&& (255 : Int32)).toUInt32.toUInt16.toUInt32.toInt32)), .unset, .val (.ref b73), .unset] [(.ref b81)])) (fun t_ k_ => st84.trans k_) ?_
        refine own_go (T84.setTop (mkF m 135 #[.val (.int p0), .val (.int p1), .val (.int p2), .val (.int p3), .val (.int p4), .val (.int (p0 &&& (3 : Int32))), .val (.int ((p3 &&& (255 : Int32)).toUInt32.toUInt16.toUInt32.toInt32)), .val (.ref b81), .val (.ref b73), .unset] [])) (fun t_ k_ => XS.astore X84.here hx rfl (hb hby at_133) rfl rfl (l' := #[.val (.int p0), .val (.int p1), .val (.int p2), .val (.int p3), .val (.int p4), .val (.int (p0 &&& (3 : Int32))), .val (.int ((p3 &&& (255 : Int32)).toUInt32.toUInt16.toUInt32.toInt32)), .val (.ref b81), .val (.ref b73), .unset]) rfl k_) ?_
        refine own_go (T84.setTop (mkF m 258 #[.val (.int p0), .val (.int p1), .val (.int p2), .val (.int p3), .val (.int p4), .val (.int (p0 &&& (3 : Int32))), .val (.int ((p3 &&& (255 : Int32)).toUInt32.toUInt16.toUInt32.toInt32)), .val (.ref b81), .val (.ref b73), .unset] [])) (fun t_ k_ => XS.goto X84.here hx rfl (pc0 := 135) (pc' := 258) rfl (hb hby at_135) (by decide) (by decide) k_) ?_
        exact J1 _ _ _ hS (Nat.le_trans (Nat.le_trans (Nat.le_trans (Nat.le_trans (Nat.le_trans (Nat.le_trans (Nat.le_trans hk E73.1) (Keep.of_wr W74).1) (Keep.of_wr W75).1) (Keep.of_wr W77).1) (Keep.of_wr W79).1) E81.1) K84q.1) hZ hown _ _ (X84.more (by decide) (by decide)) N84 rfl O84 KK84 R84 (b81) (t84) (kb84) ((([105, 110, 112] : List Int32).set i123.toNatClampNeg (nar .char ((p3 &&& (255 : Int32)).toUInt32.toUInt16.toUInt32.toInt32)))) (.val (.ref b73)) (hp82) (by first | decide | exact Nat.le_of_ble_eq_true rfl | simp | exact trivial) (One.val rfl) X84q V84q C84q (by rw [List.length_set]; exact A84q)
    ·
      refine own_go (s₁.setTop (mkF m 138 #[.val (.int p0), .val (.int p1), .val (.int p2), .val (.int p3), .val (.int p4), .val (.int (p0 &&& (3 : Int32))), .val (.int ((p3 &&& (255 : Int32)).toUInt32.toUInt16.toUInt32.toInt32)), .unset, .unset, .unset] [])) (fun t_ k_ => XS.icmpYes X0.here hx rfl (pc0 := 61) (pc' := 138) rfl (hb hby at_61) rfl (feq hc61_59).2 (by decide) (by decide) k_) ?_
      refine own_go (s₁.setTop (mkF m 140 #[.val (.int p0), .val (.int p1), .val (.int p2), .val (.int p3), .val (.int p4), .val (.int (p0 &&& (3 : Int32))), .val (.int ((p3 &&& (255 : Int32)).toUInt32.toUInt16.toUInt32.toInt32)), .unset, .unset, .unset] [(.int (p0 &&& (3 : Int32)))])) (fun t_ k_ => XS.iload X0.here hx rfl (hb hby at_138) rfl k_) ?_
      refine own_go (s₁.setTop (mkF m 141 #[.val (.int p0), .val (.int p1), .val (.int p2), .val (.int p3), .val (.int p4), .val (.int (p0 &&& (3 : Int32))), .val (.int ((p3 &&& (255 : Int32)).toUInt32.toUInt16.toUInt32.toInt32)), .unset, .unset, .unset] [(.int (2 : Int32)), (.int (p0 &&& (3 : Int32)))])) (fun t_ k_ => XS.iconst X0.here hx rfl (hb hby at_140) k_) ?_
      by_cases hc141_85 : (p0 &&& (3 : Int32)) = (2 : Int32)
      ·
        refine own_go (s₁.setTop (mkF m 144 #[.val (.int p0), .val (.int p1), .val (.int p2), .val (.int p3), .val (.int p4), .val (.int (p0 &&& (3 : Int32))), .val (.int ((p3 &&& (255 : Int32)).toUInt32.toUInt16.toUInt32.toInt32)), .unset, .unset, .unset] [])) (fun t_ k_ => XS.icmpNo X0.here hx rfl (hb hby at_141) rfl (teq hc141_85).2 k_) ?_
        refine own_go (s₁.setTop (mkF m 145 #[.val (.int p0), .val (.int p1), .val (.int p2), .val (.int p3), .val (.int p4), .val (.int (p0 &&& (3 : Int32))), .val (.int ((p3 &&& (255 : Int32)).toUInt32.toUInt16.toUInt32.toInt32)), .unset, .unset, .unset] [(.int p2)])) (fun t_ k_ => XS.iloadN X0.here hx rfl (hb hby at_144) rfl k_) ?_
        refine own_go (s₁.setTop (mkF m 147 #[.val (.int p0), .val (.int p1), .val (.int p2), .val (.int p3), .val (.int p4), .val (.int (p0 &&& (3 : Int32))), .val (.int ((p3 &&& (255 : Int32)).toUInt32.toUInt16.toUInt32.toInt32)), .unset, .unset, .unset] [(.int p4), (.int p2)])) (fun t_ k_ => XS.iload X0.here hx rfl (hb hby at_145) rfl k_) ?_
        refine own_go (s₁.setTop (mkF m 148 #[.val (.int p0), .val (.int p1), .val (.int p2), .val (.int p3), .val (.int p4), .val (.int (p0 &&& (3 : Int32))), .val (.int ((p3 &&& (255 : Int32)).toUInt32.toUInt16.toUInt32.toInt32)), .unset, .unset, .unset] [(.int (3 : Int32)), (.int p4), (.int p2)])) (fun t_ k_ => XS.iconst X0.here hx rfl (hb hby at_147) k_) ?_
        refine own_go (s₁.setTop (mkF m 149 #[.val (.int p0), .val (.int p1), .val (.int p2), .val (.int p3), .val (.int p4), .val (.int (p0 &&& (3 : Int32))), .val (.int ((p3 &&& (255 : Int32)).toUInt32.toUInt16.toUInt32.toInt32)), .unset, .unset, .unset] [(.int (p4 &&& (3 : Int32))), (.int p2)])) (fun t_ k_ => XS.iand X0.here hx rfl (hb hby at_148) rfl k_) ?_
        obtain ⟨_, _, ⟨T86, Lu86, ku86, nu86⟩, -, X86, hS86, hg86, ⟨Lc86, hQ86, lu86, yu86, zu86, C86⟩, st86⟩ := callSS X0 hx (y := (⟨"com/example/tuplebag/tuplebag/bench/WorkloadNamedPinLaw", "drawn", "(II)Ljava/lang/String;"⟩ : MethodName)) hown (mvT hZ (hw _ (List.mem_of_getElem? (i := 104) rfl))) (mvT hZ (hw _ (List.mem_of_getElem? (i := 105) rfl))) (mvT hZ (hw _ (List.mem_of_getElem? (i := 106) rfl))) (mvT hZ (hw _ (List.mem_of_getElem? (i := 107) rfl))) (by decide) (backOfSH (W := 0) (rm_dw l Z a0 hw [] (p2) ((p4 &&& (3 : Int32))) (a_OUT) (a__VALUES) (a_INP) (a_TAKE_COMPLETE) (a_OUT_text) (a_INP_text) (a_TAKE_COMPLETE_text) (a_OUT_text_value) (a_INP_text_value) (a_TAKE_COMPLETE_text_value) (a_EM) (k__VALUES) (k_OUT_text_value) (k_INP_text_value) (k_TAKE_COMPLETE_text_value) (cs0) h0 O w) hZ (hw _ (List.mem_of_getElem? (i := 107) rfl)) (hw _ (List.mem_of_getElem? (i := 106) rfl)) (by decide) (by decide) hEW R0.1) (g := (mkF m 149 #[.val (.int p0), .val (.int p1), .val (.int p2), .val (.int p3), .val (.int p4), .val (.int (p0 &&& (3 : Int32))), .val (.int ((p3 &&& (255 : Int32)).toUInt32.toUInt16.toUInt32.toInt32)), .unset, .unset, .unset] [(.int (p4 &&& (3 : Int32))), (.int p2)])) rfl (by rw [hml]; rfl) (argsL := [(.int p2), (.int (p4 &&& (3 : Int32)))]) (rest := []) (lenOf own_pd11 rfl) rfl (by show 2 * 0 + _ ≤ _; exact Nat.le_of_eq rfl) (hb hby at_149) (fun _ _ => ⟨rfl, e0, (by decide : 0 + 6 ≤ _), (by decide : 0 + 12 ≤ _)⟩)
        dsimp only [Pt.U, Pt.locs, Pt.cells, Pt.slots] at X86 lu86 yu86 zu86 st86 hQ86 hS86 hg86 C86
        subst lu86 yu86 zu86
        obtain ⟨X86, hS, hZ, hown⟩ := rebS hS (by rw [show s₁.heap = h0 from e0]; exact hk) X86 hS86 hg86 hZ hown
        have R86 := R0.trans C86
        obtain ⟨o86, t86, kb86, cs86, rfl, N86q, hp86q, hl86q, K86q, X86q, F86q, G86q, A86q⟩ := hQ86
        have N86 := Fr.app N0 N86q
        have O86 := own_extK O K86q all0
        have KK86 : Keep h0 T86.heap [] := (Keep.refl h0 []).trans K86q all0
        refine own_go (T86.setTop (mkF m 152 #[.val (.int p0), .val (.int p1), .val (.int p2), .val (.int p3), .val (.int p4), .val (.int (p0 &&& (3 : Int32))), .val (.int ((p3 &&& (255 : Int32)).toUInt32.toUInt16.toUInt32.toInt32)), .unset, .unset, .unset] [(.ref o86)])) (fun t_ k_ => st86.trans k_) ?_
        refine own_go (T86.setTop (mkF m 154 #[.val (.int p0), .val (.int p1), .val (.int p2), .val (.int p3), .val (.int p4), .val (.int (p0 &&& (3 : Int32))), .val (.int ((p3 &&& (255 : Int32)).toUInt32.toUInt16.toUInt32.toInt32)), .val (.ref o86), .unset, .unset] [])) (fun t_ k_ => XS.astore X86.here hx rfl (hb hby at_152) rfl rfl (l' := #[.val (.int p0), .val (.int p1), .val (.int p2), .val (.int p3), .val (.int p4), .val (.int (p0 &&& (3 : Int32))), .val (.int ((p3 &&& (255 : Int32)).toUInt32.toUInt16.toUInt32.toInt32)), .val (.ref o86), .unset, .unset]) rfl k_) ?_
        refine own_go (T86.setTop (mkF m 258 #[.val (.int p0), .val (.int p1), .val (.int p2), .val (.int p3), .val (.int p4), .val (.int (p0 &&& (3 : Int32))), .val (.int ((p3 &&& (255 : Int32)).toUInt32.toUInt16.toUInt32.toInt32)), .val (.ref o86), .unset, .unset] [])) (fun t_ k_ => XS.goto X86.here hx rfl (pc0 := 154) (pc' := 258) rfl (hb hby at_154) (by decide) (by decide) k_) ?_
        exact J1 _ _ _ hS (Nat.le_refl _) hZ hown _ _ (X86.more (by decide) (by decide)) N86 rfl O86 KK86 R86 (o86) (t86) (kb86) (cs86) (.unset) (hp86q) (by first | decide | exact Nat.le_of_ble_eq_true rfl | simp | exact hl86q) (One.u) X86q F86q G86q A86q
      ·
        refine own_go (s₁.setTop (mkF m 157 #[.val (.int p0), .val (.int p1), .val (.int p2), .val (.int p3), .val (.int p4), .val (.int (p0 &&& (3 : Int32))), .val (.int ((p3 &&& (255 : Int32)).toUInt32.toUInt16.toUInt32.toInt32)), .unset, .unset, .unset] [])) (fun t_ k_ => XS.icmpYes X0.here hx rfl (pc0 := 141) (pc' := 157) rfl (hb hby at_141) rfl (feq hc141_85).2 (by decide) (by decide) k_) ?_
        refine own_go (s₁.setTop (mkF m 159 #[.val (.int p0), .val (.int p1), .val (.int p2), .val (.int p3), .val (.int p4), .val (.int (p0 &&& (3 : Int32))), .val (.int ((p3 &&& (255 : Int32)).toUInt32.toUInt16.toUInt32.toInt32)), .unset, .unset, .unset] [(.int (13 : Int32))])) (fun t_ k_ => XS.bipush X0.here hx rfl (hb hby at_157) k_) ?_
        obtain ⟨T87, h87, k87, X87, e87, E87, A87, st87⟩ := newP X0 hx hZ (hw _ (List.mem_of_getElem? (i := 82) rfl)) e0 (g := (mkF m 159 #[.val (.int p0), .val (.int p1), .val (.int p2), .val (.int p3), .val (.int p4), .val (.int (p0 &&& (3 : Int32))), .val (.int ((p3 &&& (255 : Int32)).toUInt32.toUInt16.toUInt32.toInt32)), .unset, .unset, .unset] [(.int (13 : Int32))])) rfl (hb hby at_159) rfl (by decide) (cap := 13) (by decide) (by decide) (by decide) (by decide)
        obtain ⟨b87, g87⟩ : ∃ z, z = h0.size := ⟨_, rfl⟩
        rw [← g87] at A87 st87
        have ge_b87 : Z.heap.size ≤ b87 := Nat.le_trans O.1 (Nat.le_of_eq g87.symm)
        have sz_b87 : h0.size ≤ b87 := Nat.le_trans (Keep.refl h0 []).1 (Nat.le_of_eq g87.symm)
        have R87 := R0.trans (CHr.ext E87 R0.1)
        have Sf87 := Safe.ext (x := b87) E87 R0.1 (Safe.new (Nat.le_of_eq g87.symm))
        have K87 : Keep h0 h87 [] := (Keep.refl h0 []).ext E87
        have O87 := own_ext O E87
        have V87 : Arv Z h87 b87 k87 .char (13 : Int32) [(.int (0 : Int32)), (.int (0 : Int32)), (.int (0 : Int32)), (.int (0 : Int32)), (.int (0 : Int32)), (.int (0 : Int32)), (.int (0 : Int32)), (.int (0 : Int32)), (.int (0 : Int32)), (.int (0 : Int32)), (.int (0 : Int32)), (.int (0 : Int32)), (.int (0 : Int32))] (.int (0 : Int32)) := (Arv.new A87 (by decide)).pad (pad_rep [] (.int (0 : Int32)) 13)
        refine own_go (T87.setTop (mkF m 161 #[.val (.int p0), .val (.int p1), .val (.int p2), .val (.int p3), .val (.int p4), .val (.int (p0 &&& (3 : Int32))), .val (.int ((p3 &&& (255 : Int32)).toUInt32.toUInt16.toUInt32.toInt32)), .unset, .unset, .unset] [(.ref b87)])) (fun t_ k_ => st87 _ k_) ?_
        refine own_go (T87.setTop (mkF m 162 #[.val (.int p0), .val (.int p1), .val (.int p2), .val (.int p3), .val (.int p4), .val (.int (p0 &&& (3 : Int32))), .val (.int ((p3 &&& (255 : Int32)).toUInt32.toUInt16.toUInt32.toInt32)), .unset, .unset, .unset] [(.ref b87), (.ref b87)])) (fun t_ k_ => XS.dup X87.here hx rfl (hb hby at_161) rfl rfl k_) ?_
        refine own_go (T87.setTop (mkF m 163 #[.val (.int p0), .val (.int p1), .val (.int p2), .val (.int p3), .val (.int p4), .val (.int (p0 &&& (3 : Int32))), .val (.int ((p3 &&& (255 : Int32)).toUInt32.toUInt16.toUInt32.toInt32)), .unset, .unset, .unset] [(.int (0 : Int32)), (.ref b87), (.ref b87)])) (fun t_ k_ => XS.iconst X87.here hx rfl (hb hby at_162) k_) ?_
        refine own_go (T87.setTop (mkF m 165 #[.val (.int p0), .val (.int p1), .val (.int p2), .val (.int p3), .val (.int p4), .val (.int (p0 &&& (3 : Int32))), .val (.int ((p3 &&& (255 : Int32)).toUInt32.toUInt16.toUInt32.toInt32)), .unset, .unset, .unset] [(.int (116 : Int32)), (.int (0 : Int32)), (.ref b87), (.ref b87)])) (fun t_ k_ => XS.bipush X87.here hx rfl (hb hby at_163) k_) ?_
        obtain ⟨cl88, Ar88, q88, Sz88, Nz88, Hz88, Gz88⟩ := id (V87)
        have hin88 : ¬ ((0 : Int32) < 0 ∨ cl88.slots.size ≤ ((0 : Int32)).toNatClampNeg) := inb_of Sz88 ⟨by decide, by decide⟩
        obtain ⟨T88, h88, X88, e88, W88, st88⟩ := stC X87 hx hZ e87 Ar88 (j := (0 : Int32)) hin88  (g := (mkF m 165 #[.val (.int p0), .val (.int p1), .val (.int p2), .val (.int p3), .val (.int p4), .val (.int (p0 &&& (3 : Int32))), .val (.int ((p3 &&& (255 : Int32)).toUInt32.toUInt16.toUInt32.toInt32)), .unset, .unset, .unset] [(.int (116 : Int32)), (.int (0 : Int32)), (.ref b87), (.ref b87)])) rfl rfl (hb hby at_165)
        have R88 := R87.trans (CHr.wr W88 Sf87 R87.1)
        have V88 : Arv Z h88 b87 k87 .char (13 : Int32) [(.int (116 : Int32)), (.int (0 : Int32)), (.int (0 : Int32)), (.int (0 : Int32)), (.int (0 : Int32)), (.int (0 : Int32)), (.int (0 : Int32)), (.int (0 : Int32)), (.int (0 : Int32)), (.int (0 : Int32)), (.int (0 : Int32)), (.int (0 : Int32)), (.int (0 : Int32))] (.int (0 : Int32)) := Arv.set Ar88 q88 Sz88 Nz88 Hz88 Gz88 (by decide) W88 0 rfl (Nat.le_of_ble_eq_true rfl)
        have K88 : Keep h0 h88 [] := K87.wr W88 (Or.inr sz_b87)
        have N88 := Fr.snoc X88 N0 ge_b87
        have O88 := own_extW O87 W88 ge_b87
        refine own_go (T88.setTop (mkF m 166 #[.val (.int p0), .val (.int p1), .val (.int p2), .val (.int p3), .val (.int p4), .val (.int (p0 &&& (3 : Int32))), .val (.int ((p3 &&& (255 : Int32)).toUInt32.toUInt16.toUInt32.toInt32)), .unset, .unset, .unset] [(.ref b87)])) (fun t_ k_ => st88 _ k_) ?_
        refine own_go (T88.setTop (mkF m 167 #[.val (.int p0), .val (.int p1), .val (.int p2), .val (.int p3), .val (.int p4), .val (.int (p0 &&& (3 : Int32))), .val (.int ((p3 &&& (255 : Int32)).toUInt32.toUInt16.toUInt32.toInt32)), .unset, .unset, .unset] [(.ref b87), (.ref b87)])) (fun t_ k_ => XS.dup X88.here hx rfl (hb hby at_166) rfl rfl k_) ?_
        refine own_go (T88.setTop (mkF m 168 #[.val (.int p0), .val (.int p1), .val (.int p2), .val (.int p3), .val (.int p4), .val (.int (p0 &&& (3 : Int32))), .val (.int ((p3 &&& (255 : Int32)).toUInt32.toUInt16.toUInt32.toInt32)), .unset, .unset, .unset] [(.int (1 : Int32)), (.ref b87), (.ref b87)])) (fun t_ k_ => XS.iconst X88.here hx rfl (hb hby at_167) k_) ?_
        refine own_go (T88.setTop (mkF m 170 #[.val (.int p0), .val (.int p1), .val (.int p2), .val (.int p3), .val (.int p4), .val (.int (p0 &&& (3 : Int32))), .val (.int ((p3 &&& (255 : Int32)).toUInt32.toUInt16.toUInt32.toInt32)), .unset, .unset, .unset] [(.int (97 : Int32)), (.int (1 : Int32)), (.ref b87), (.ref b87)])) (fun t_ k_ => XS.bipush X88.here hx rfl (hb hby at_168) k_) ?_
        obtain ⟨cl89, Ar89, q89, Sz89, Nz89, Hz89, Gz89⟩ := id (V88)
        have hin89 : ¬ ((1 : Int32) < 0 ∨ cl89.slots.size ≤ ((1 : Int32)).toNatClampNeg) := inb_of Sz89 ⟨by decide, by decide⟩
        obtain ⟨T89, h89, X89, e89, W89, st89⟩ := stC X88 hx hZ e88 Ar89 (j := (1 : Int32)) hin89  (g := (mkF m 170 #[.val (.int p0), .val (.int p1), .val (.int p2), .val (.int p3), .val (.int p4), .val (.int (p0 &&& (3 : Int32))), .val (.int ((p3 &&& (255 : Int32)).toUInt32.toUInt16.toUInt32.toInt32)), .unset, .unset, .unset] [(.int (97 : Int32)), (.int (1 : Int32)), (.ref b87), (.ref b87)])) rfl rfl (hb hby at_170)
        have Fz90 := (Safe.wr W88 Sf87 R87.1 Sf87)
        have R89 := R88.trans (CHr.wr W89 Fz90 R88.1)
        have V89 : Arv Z h89 b87 k87 .char (13 : Int32) [(.int (116 : Int32)), (.int (97 : Int32)), (.int (0 : Int32)), (.int (0 : Int32)), (.int (0 : Int32)), (.int (0 : Int32)), (.int (0 : Int32)), (.int (0 : Int32)), (.int (0 : Int32)), (.int (0 : Int32)), (.int (0 : Int32)), (.int (0 : Int32)), (.int (0 : Int32))] (.int (0 : Int32)) := Arv.set Ar89 q89 Sz89 Nz89 Hz89 Gz89 (by decide) W89 1 rfl (Nat.le_of_ble_eq_true rfl)
        have K89 : Keep h0 h89 [] := K88.wr W89 (Or.inr sz_b87)
        have N89 := Fr.snoc X89 N88 ge_b87
        have O89 := own_extW O88 W89 ge_b87
        refine own_go (T89.setTop (mkF m 171 #[.val (.int p0), .val (.int p1), .val (.int p2), .val (.int p3), .val (.int p4), .val (.int (p0 &&& (3 : Int32))), .val (.int ((p3 &&& (255 : Int32)).toUInt32.toUInt16.toUInt32.toInt32)), .unset, .unset, .unset] [(.ref b87)])) (fun t_ k_ => st89 _ k_) ?_
        refine own_go (T89.setTop (mkF m 172 #[.val (.int p0), .val (.int p1), .val (.int p2), .val (.int p3), .val (.int p4), .val (.int (p0 &&& (3 : Int32))), .val (.int ((p3 &&& (255 : Int32)).toUInt32.toUInt16.toUInt32.toInt32)), .unset, .unset, .unset] [(.ref b87), (.ref b87)])) (fun t_ k_ => XS.dup X89.here hx rfl (hb hby at_171) rfl rfl k_) ?_
        refine own_go (T89.setTop (mkF m 173 #[.val (.int p0), .val (.int p1), .val (.int p2), .val (.int p3), .val (.int p4), .val (.int (p0 &&& (3 : Int32))), .val (.int ((p3 &&& (255 : Int32)).toUInt32.toUInt16.toUInt32.toInt32)), .unset, .unset, .unset] [(.int (2 : Int32)), (.ref b87), (.ref b87)])) (fun t_ k_ => XS.iconst X89.here hx rfl (hb hby at_172) k_) ?_
        refine own_go (T89.setTop (mkF m 175 #[.val (.int p0), .val (.int p1), .val (.int p2), .val (.int p3), .val (.int p4), .val (.int (p0 &&& (3 : Int32))), .val (.int ((p3 &&& (255 : Int32)).toUInt32.toUInt16.toUInt32.toInt32)), .unset, .unset, .unset] [(.int (107 : Int32)), (.int (2 : Int32)), (.ref b87), (.ref b87)])) (fun t_ k_ => XS.bipush X89.here hx rfl (hb hby at_173) k_) ?_
        obtain ⟨cl91, Ar91, q91, Sz91, Nz91, Hz91, Gz91⟩ := id (V89)
        have hin91 : ¬ ((2 : Int32) < 0 ∨ cl91.slots.size ≤ ((2 : Int32)).toNatClampNeg) := inb_of Sz91 ⟨by decide, by decide⟩
        obtain ⟨T91, h91, X91, e91, W91, st91⟩ := stC X89 hx hZ e89 Ar91 (j := (2 : Int32)) hin91  (g := (mkF m 175 #[.val (.int p0), .val (.int p1), .val (.int p2), .val (.int p3), .val (.int p4), .val (.int (p0 &&& (3 : Int32))), .val (.int ((p3 &&& (255 : Int32)).toUInt32.toUInt16.toUInt32.toInt32)), .unset, .unset, .unset] [(.int (107 : Int32)), (.int (2 : Int32)), (.ref b87), (.ref b87)])) rfl rfl (hb hby at_175)
        have Fz92 := (Safe.wr W89 Fz90 R88.1 Fz90)
        have R91 := R89.trans (CHr.wr W91 Fz92 R89.1)
        have V91 : Arv Z h91 b87 k87 .char (13 : Int32) [(.int (116 : Int32)), (.int (97 : Int32)), (.int (107 : Int32)), (.int (0 : Int32)), (.int (0 : Int32)), (.int (0 : Int32)), (.int (0 : Int32)), (.int (0 : Int32)), (.int (0 : Int32)), (.int (0 : Int32)), (.int (0 : Int32)), (.int (0 : Int32)), (.int (0 : Int32))] (.int (0 : Int32)) := Arv.set Ar91 q91 Sz91 Nz91 Hz91 Gz91 (by decide) W91 2 rfl (Nat.le_of_ble_eq_true rfl)
        have K91 : Keep h0 h91 [] := K89.wr W91 (Or.inr sz_b87)
        have N91 := Fr.snoc X91 N89 ge_b87
        have O91 := own_extW O89 W91 ge_b87
        refine own_go (T91.setTop (mkF m 176 #[.val (.int p0), .val (.int p1), .val (.int p2), .val (.int p3), .val (.int p4), .val (.int (p0 &&& (3 : Int32))), .val (.int ((p3 &&& (255 : Int32)).toUInt32.toUInt16.toUInt32.toInt32)), .unset, .unset, .unset] [(.ref b87)])) (fun t_ k_ => st91 _ k_) ?_
        refine own_go (T91.setTop (mkF m 177 #[.val (.int p0), .val (.int p1), .val (.int p2), .val (.int p3), .val (.int p4), .val (.int (p0 &&& (3 : Int32))), .val (.int ((p3 &&& (255 : Int32)).toUInt32.toUInt16.toUInt32.toInt32)), .unset, .unset, .unset] [(.ref b87), (.ref b87)])) (fun t_ k_ => XS.dup X91.here hx rfl (hb hby at_176) rfl rfl k_) ?_
        refine own_go (T91.setTop (mkF m 178 #[.val (.int p0), .val (.int p1), .val (.int p2), .val (.int p3), .val (.int p4), .val (.int (p0 &&& (3 : Int32))), .val (.int ((p3 &&& (255 : Int32)).toUInt32.toUInt16.toUInt32.toInt32)), .unset, .unset, .unset] [(.int (3 : Int32)), (.ref b87), (.ref b87)])) (fun t_ k_ => XS.iconst X91.here hx rfl (hb hby at_177) k_) ?_
        refine own_go (T91.setTop (mkF m 180 #[.val (.int p0), .val (.int p1), .val (.int p2), .val (.int p3), .val (.int p4), .val (.int (p0 &&& (3 : Int32))), .val (.int ((p3 &&& (255 : Int32)).toUInt32.toUInt16.toUInt32.toInt32)), .unset, .unset, .unset] [(.int (101 : Int32)), (.int (3 : Int32)), (.ref b87), (.ref b87)])) (fun t_ k_ => XS.bipush X91.here hx rfl (hb hby at_178) k_) ?_
        obtain ⟨cl93, Ar93, q93, Sz93, Nz93, Hz93, Gz93⟩ := id (V91)
        have hin93 : ¬ ((3 : Int32) < 0 ∨ cl93.slots.size ≤ ((3 : Int32)).toNatClampNeg) := inb_of Sz93 ⟨by decide, by decide⟩
        obtain ⟨T93, h93, X93, e93, W93, st93⟩ := stC X91 hx hZ e91 Ar93 (j := (3 : Int32)) hin93  (g := (mkF m 180 #[.val (.int p0), .val (.int p1), .val (.int p2), .val (.int p3), .val (.int p4), .val (.int (p0 &&& (3 : Int32))), .val (.int ((p3 &&& (255 : Int32)).toUInt32.toUInt16.toUInt32.toInt32)), .unset, .unset, .unset] [(.int (101 : Int32)), (.int (3 : Int32)), (.ref b87), (.ref b87)])) rfl rfl (hb hby at_180)
        have Fz94 := (Safe.wr W91 Fz92 R89.1 Fz92)
        have R93 := R91.trans (CHr.wr W93 Fz94 R91.1)
        have V93 : Arv Z h93 b87 k87 .char (13 : Int32) [(.int (116 : Int32)), (.int (97 : Int32)), (.int (107 : Int32)), (.int (101 : Int32)), (.int (0 : Int32)), (.int (0 : Int32)), (.int (0 : Int32)), (.int (0 : Int32)), (.int (0 : Int32)), (.int (0 : Int32)), (.int (0 : Int32)), (.int (0 : Int32)), (.int (0 : Int32))] (.int (0 : Int32)) := Arv.set Ar93 q93 Sz93 Nz93 Hz93 Gz93 (by decide) W93 3 rfl (Nat.le_of_ble_eq_true rfl)
        have K93 : Keep h0 h93 [] := K91.wr W93 (Or.inr sz_b87)
        have N93 := Fr.snoc X93 N91 ge_b87
        have O93 := own_extW O91 W93 ge_b87
        refine own_go (T93.setTop (mkF m 181 #[.val (.int p0), .val (.int p1), .val (.int p2), .val (.int p3), .val (.int p4), .val (.int (p0 &&& (3 : Int32))), .val (.int ((p3 &&& (255 : Int32)).toUInt32.toUInt16.toUInt32.toInt32)), .unset, .unset, .unset] [(.ref b87)])) (fun t_ k_ => st93 _ k_) ?_
        refine own_go (T93.setTop (mkF m 182 #[.val (.int p0), .val (.int p1), .val (.int p2), .val (.int p3), .val (.int p4), .val (.int (p0 &&& (3 : Int32))), .val (.int ((p3 &&& (255 : Int32)).toUInt32.toUInt16.toUInt32.toInt32)), .unset, .unset, .unset] [(.ref b87), (.ref b87)])) (fun t_ k_ => XS.dup X93.here hx rfl (hb hby at_181) rfl rfl k_) ?_
        refine own_go (T93.setTop (mkF m 183 #[.val (.int p0), .val (.int p1), .val (.int p2), .val (.int p3), .val (.int p4), .val (.int (p0 &&& (3 : Int32))), .val (.int ((p3 &&& (255 : Int32)).toUInt32.toUInt16.toUInt32.toInt32)), .unset, .unset, .unset] [(.int (4 : Int32)), (.ref b87), (.ref b87)])) (fun t_ k_ => XS.iconst X93.here hx rfl (hb hby at_182) k_) ?_
        refine own_go (T93.setTop (mkF m 185 #[.val (.int p0), .val (.int p1), .val (.int p2), .val (.int p3), .val (.int p4), .val (.int (p0 &&& (3 : Int32))), .val (.int ((p3 &&& (255 : Int32)).toUInt32.toUInt16.toUInt32.toInt32)), .unset, .unset, .unset] [(.int (45 : Int32)), (.int (4 : Int32)), (.ref b87), (.ref b87)])) (fun t_ k_ => XS.bipush X93.here hx rfl (hb hby at_183) k_) ?_
        obtain ⟨cl95, Ar95, q95, Sz95, Nz95, Hz95, Gz95⟩ := id (V93)
        have hin95 : ¬ ((4 : Int32) < 0 ∨ cl95.slots.size ≤ ((4 : Int32)).toNatClampNeg) := inb_of Sz95 ⟨by decide, by decide⟩
        obtain ⟨T95, h95, X95, e95, W95, st95⟩ := stC X93 hx hZ e93 Ar95 (j := (4 : Int32)) hin95  (g := (mkF m 185 #[.val (.int p0), .val (.int p1), .val (.int p2), .val (.int p3), .val (.int p4), .val (.int (p0 &&& (3 : Int32))), .val (.int ((p3 &&& (255 : Int32)).toUInt32.toUInt16.toUInt32.toInt32)), .unset, .unset, .unset] [(.int (45 : Int32)), (.int (4 : Int32)), (.ref b87), (.ref b87)])) rfl rfl (hb hby at_185)
        have Fz96 := (Safe.wr W93 Fz94 R91.1 Fz94)
        have R95 := R93.trans (CHr.wr W95 Fz96 R93.1)
        have V95 : Arv Z h95 b87 k87 .char (13 : Int32) [(.int (116 : Int32)), (.int (97 : Int32)), (.int (107 : Int32)), (.int (101 : Int32)), (.int (45 : Int32)), (.int (0 : Int32)), (.int (0 : Int32)), (.int (0 : Int32)), (.int (0 : Int32)), (.int (0 : Int32)), (.int (0 : Int32)), (.int (0 : Int32)), (.int (0 : Int32))] (.int (0 : Int32)) := Arv.set Ar95 q95 Sz95 Nz95 Hz95 Gz95 (by decide) W95 4 rfl (Nat.le_of_ble_eq_true rfl)
        have K95 : Keep h0 h95 [] := K93.wr W95 (Or.inr sz_b87)
        have N95 := Fr.snoc X95 N93 ge_b87
        have O95 := own_extW O93 W95 ge_b87
        refine own_go (T95.setTop (mkF m 186 #[.val (.int p0), .val (.int p1), .val (.int p2), .val (.int p3), .val (.int p4), .val (.int (p0 &&& (3 : Int32))), .val (.int ((p3 &&& (255 : Int32)).toUInt32.toUInt16.toUInt32.toInt32)), .unset, .unset, .unset] [(.ref b87)])) (fun t_ k_ => st95 _ k_) ?_
        refine own_go (T95.setTop (mkF m 187 #[.val (.int p0), .val (.int p1), .val (.int p2), .val (.int p3), .val (.int p4), .val (.int (p0 &&& (3 : Int32))), .val (.int ((p3 &&& (255 : Int32)).toUInt32.toUInt16.toUInt32.toInt32)), .unset, .unset, .unset] [(.ref b87), (.ref b87)])) (fun t_ k_ => XS.dup X95.here hx rfl (hb hby at_186) rfl rfl k_) ?_
        refine own_go (T95.setTop (mkF m 188 #[.val (.int p0), .val (.int p1), .val (.int p2), .val (.int p3), .val (.int p4), .val (.int (p0 &&& (3 : Int32))), .val (.int ((p3 &&& (255 : Int32)).toUInt32.toUInt16.toUInt32.toInt32)), .unset, .unset, .unset] [(.int (5 : Int32)), (.ref b87), (.ref b87)])) (fun t_ k_ => XS.iconst X95.here hx rfl (hb hby at_187) k_) ?_
        refine own_go (T95.setTop (mkF m 190 #[.val (.int p0), .val (.int p1), .val (.int p2), .val (.int p3), .val (.int p4), .val (.int (p0 &&& (3 : Int32))), .val (.int ((p3 &&& (255 : Int32)).toUInt32.toUInt16.toUInt32.toInt32)), .unset, .unset, .unset] [(.int (99 : Int32)), (.int (5 : Int32)), (.ref b87), (.ref b87)])) (fun t_ k_ => XS.bipush X95.here hx rfl (hb hby at_188) k_) ?_
        obtain ⟨cl97, Ar97, q97, Sz97, Nz97, Hz97, Gz97⟩ := id (V95)
        have hin97 : ¬ ((5 : Int32) < 0 ∨ cl97.slots.size ≤ ((5 : Int32)).toNatClampNeg) := inb_of Sz97 ⟨by decide, by decide⟩
        obtain ⟨T97, h97, X97, e97, W97, st97⟩ := stC X95 hx hZ e95 Ar97 (j := (5 : Int32)) hin97  (g := (mkF m 190 #[.val (.int p0), .val (.int p1), .val (.int p2), .val (.int p3), .val (.int p4), .val (.int (p0 &&& (3 : Int32))), .val (.int ((p3 &&& (255 : Int32)).toUInt32.toUInt16.toUInt32.toInt32)), .unset, .unset, .unset] [(.int (99 : Int32)), (.int (5 : Int32)), (.ref b87), (.ref b87)])) rfl rfl (hb hby at_190)
        have Fz98 := (Safe.wr W95 Fz96 R93.1 Fz96)
        have R97 := R95.trans (CHr.wr W97 Fz98 R95.1)
        have V97 : Arv Z h97 b87 k87 .char (13 : Int32) [(.int (116 : Int32)), (.int (97 : Int32)), (.int (107 : Int32)), (.int (101 : Int32)), (.int (45 : Int32)), (.int (99 : Int32)), (.int (0 : Int32)), (.int (0 : Int32)), (.int (0 : Int32)), (.int (0 : Int32)), (.int (0 : Int32)), (.int (0 : Int32)), (.int (0 : Int32))] (.int (0 : Int32)) := Arv.set Ar97 q97 Sz97 Nz97 Hz97 Gz97 (by decide) W97 5 rfl (Nat.le_of_ble_eq_true rfl)
        have K97 : Keep h0 h97 [] := K95.wr W97 (Or.inr sz_b87)
        have N97 := Fr.snoc X97 N95 ge_b87
        have O97 := own_extW O95 W97 ge_b87
        refine own_go (T97.setTop (mkF m 191 #[.val (.int p0), .val (.int p1), .val (.int p2), .val (.int p3), .val (.int p4), .val (.int (p0 &&& (3 : Int32))), .val (.int ((p3 &&& (255 : Int32)).toUInt32.toUInt16.toUInt32.toInt32)), .unset, .unset, .unset] [(.ref b87)])) (fun t_ k_ => st97 _ k_) ?_
        refine own_go (T97.setTop (mkF m 192 #[.val (.int p0), .val (.int p1), .val (.int p2), .val (.int p3), .val (.int p4), .val (.int (p0 &&& (3 : Int32))), .val (.int ((p3 &&& (255 : Int32)).toUInt32.toUInt16.toUInt32.toInt32)), .unset, .unset, .unset] [(.ref b87), (.ref b87)])) (fun t_ k_ => XS.dup X97.here hx rfl (hb hby at_191) rfl rfl k_) ?_
        refine own_go (T97.setTop (mkF m 194 #[.val (.int p0), .val (.int p1), .val (.int p2), .val (.int p3), .val (.int p4), .val (.int (p0 &&& (3 : Int32))), .val (.int ((p3 &&& (255 : Int32)).toUInt32.toUInt16.toUInt32.toInt32)), .unset, .unset, .unset] [(.int (6 : Int32)), (.ref b87), (.ref b87)])) (fun t_ k_ => XS.bipush X97.here hx rfl (hb hby at_192) k_) ?_
        refine own_go (T97.setTop (mkF m 196 #[.val (.int p0), .val (.int p1), .val (.int p2), .val (.int p3), .val (.int p4), .val (.int (p0 &&& (3 : Int32))), .val (.int ((p3 &&& (255 : Int32)).toUInt32.toUInt16.toUInt32.toInt32)), .unset, .unset, .unset] [(.int (111 : Int32)), (.int (6 : Int32)), (.ref b87), (.ref b87)])) (fun t_ k_ => XS.bipush X97.here hx rfl (hb hby at_194) k_) ?_
        obtain ⟨cl99, Ar99, q99, Sz99, Nz99, Hz99, Gz99⟩ := id (V97)
        have hin99 : ¬ ((6 : Int32) < 0 ∨ cl99.slots.size ≤ ((6 : Int32)).toNatClampNeg) := inb_of Sz99 ⟨by decide, by decide⟩
        obtain ⟨T99, h99, X99, e99, W99, st99⟩ := stC X97 hx hZ e97 Ar99 (j := (6 : Int32)) hin99  (g := (mkF m 196 #[.val (.int p0), .val (.int p1), .val (.int p2), .val (.int p3), .val (.int p4), .val (.int (p0 &&& (3 : Int32))), .val (.int ((p3 &&& (255 : Int32)).toUInt32.toUInt16.toUInt32.toInt32)), .unset, .unset, .unset] [(.int (111 : Int32)), (.int (6 : Int32)), (.ref b87), (.ref b87)])) rfl rfl (hb hby at_196)
        have Fz100 := (Safe.wr W97 Fz98 R95.1 Fz98)
        have R99 := R97.trans (CHr.wr W99 Fz100 R97.1)
        have V99 : Arv Z h99 b87 k87 .char (13 : Int32) [(.int (116 : Int32)), (.int (97 : Int32)), (.int (107 : Int32)), (.int (101 : Int32)), (.int (45 : Int32)), (.int (99 : Int32)), (.int (111 : Int32)), (.int (0 : Int32)), (.int (0 : Int32)), (.int (0 : Int32)), (.int (0 : Int32)), (.int (0 : Int32)), (.int (0 : Int32))] (.int (0 : Int32)) := Arv.set Ar99 q99 Sz99 Nz99 Hz99 Gz99 (by decide) W99 6 rfl (Nat.le_of_ble_eq_true rfl)
        have K99 : Keep h0 h99 [] := K97.wr W99 (Or.inr sz_b87)
        have N99 := Fr.snoc X99 N97 ge_b87
        have O99 := own_extW O97 W99 ge_b87
        refine own_go (T99.setTop (mkF m 197 #[.val (.int p0), .val (.int p1), .val (.int p2), .val (.int p3), .val (.int p4), .val (.int (p0 &&& (3 : Int32))), .val (.int ((p3 &&& (255 : Int32)).toUInt32.toUInt16.toUInt32.toInt32)), .unset, .unset, .unset] [(.ref b87)])) (fun t_ k_ => st99 _ k_) ?_
        refine own_go (T99.setTop (mkF m 198 #[.val (.int p0), .val (.int p1), .val (.int p2), .val (.int p3), .val (.int p4), .val (.int (p0 &&& (3 : Int32))), .val (.int ((p3 &&& (255 : Int32)).toUInt32.toUInt16.toUInt32.toInt32)), .unset, .unset, .unset] [(.ref b87), (.ref b87)])) (fun t_ k_ => XS.dup X99.here hx rfl (hb hby at_197) rfl rfl k_) ?_
        refine own_go (T99.setTop (mkF m 200 #[.val (.int p0), .val (.int p1), .val (.int p2), .val (.int p3), .val (.int p4), .val (.int (p0 &&& (3 : Int32))), .val (.int ((p3 &&& (255 : Int32)).toUInt32.toUInt16.toUInt32.toInt32)), .unset, .unset, .unset] [(.int (7 : Int32)), (.ref b87), (.ref b87)])) (fun t_ k_ => XS.bipush X99.here hx rfl (hb hby at_198) k_) ?_
        refine own_go (T99.setTop (mkF m 202 #[.val (.int p0), .val (.int p1), .val (.int p2), .val (.int p3), .val (.int p4), .val (.int (p0 &&& (3 : Int32))), .val (.int ((p3 &&& (255 : Int32)).toUInt32.toUInt16.toUInt32.toInt32)), .unset, .unset, .unset] [(.int (109 : Int32)), (.int (7 : Int32)), (.ref b87), (.ref b87)])) (fun t_ k_ => XS.bipush X99.here hx rfl (hb hby at_200) k_) ?_
        obtain ⟨cl101, Ar101, q101, Sz101, Nz101, Hz101, Gz101⟩ := id (V99)
        have hin101 : ¬ ((7 : Int32) < 0 ∨ cl101.slots.size ≤ ((7 : Int32)).toNatClampNeg) := inb_of Sz101 ⟨by decide, by decide⟩
        obtain ⟨T101, h101, X101, e101, W101, st101⟩ := stC X99 hx hZ e99 Ar101 (j := (7 : Int32)) hin101  (g := (mkF m 202 #[.val (.int p0), .val (.int p1), .val (.int p2), .val (.int p3), .val (.int p4), .val (.int (p0 &&& (3 : Int32))), .val (.int ((p3 &&& (255 : Int32)).toUInt32.toUInt16.toUInt32.toInt32)), .unset, .unset, .unset] [(.int (109 : Int32)), (.int (7 : Int32)), (.ref b87), (.ref b87)])) rfl rfl (hb hby at_202)
        have Fz102 := (Safe.wr W99 Fz100 R97.1 Fz100)
        have R101 := R99.trans (CHr.wr W101 Fz102 R99.1)
        have V101 : Arv Z h101 b87 k87 .char (13 : Int32) [(.int (116 : Int32)), (.int (97 : Int32)), (.int (107 : Int32)), (.int (101 : Int32)), (.int (45 : Int32)), (.int (99 : Int32)), (.int (111 : Int32)), (.int (109 : Int32)), (.int (0 : Int32)), (.int (0 : Int32)), (.int (0 : Int32)), (.int (0 : Int32)), (.int (0 : Int32))] (.int (0 : Int32)) := Arv.set Ar101 q101 Sz101 Nz101 Hz101 Gz101 (by decide) W101 7 rfl (Nat.le_of_ble_eq_true rfl)
        have K101 : Keep h0 h101 [] := K99.wr W101 (Or.inr sz_b87)
        have N101 := Fr.snoc X101 N99 ge_b87
        have O101 := own_extW O99 W101 ge_b87
        refine own_go (T101.setTop (mkF m 203 #[.val (.int p0), .val (.int p1), .val (.int p2), .val (.int p3), .val (.int p4), .val (.int (p0 &&& (3 : Int32))), .val (.int ((p3 &&& (255 : Int32)).toUInt32.toUInt16.toUInt32.toInt32)), .unset, .unset, .unset] [(.ref b87)])) (fun t_ k_ => st101 _ k_) ?_
        refine own_go (T101.setTop (mkF m 204 #[.val (.int p0), .val (.int p1), .val (.int p2), .val (.int p3), .val (.int p4), .val (.int (p0 &&& (3 : Int32))), .val (.int ((p3 &&& (255 : Int32)).toUInt32.toUInt16.toUInt32.toInt32)), .unset, .unset, .unset] [(.ref b87), (.ref b87)])) (fun t_ k_ => XS.dup X101.here hx rfl (hb hby at_203) rfl rfl k_) ?_
        refine own_go (T101.setTop (mkF m 206 #[.val (.int p0), .val (.int p1), .val (.int p2), .val (.int p3), .val (.int p4), .val (.int (p0 &&& (3 : Int32))), .val (.int ((p3 &&& (255 : Int32)).toUInt32.toUInt16.toUInt32.toInt32)), .unset, .unset, .unset] [(.int (8 : Int32)), (.ref b87), (.ref b87)])) (fun t_ k_ => XS.bipush X101.here hx rfl (hb hby at_204) k_) ?_
        refine own_go (T101.setTop (mkF m 208 #[.val (.int p0), .val (.int p1), .val (.int p2), .val (.int p3), .val (.int p4), .val (.int (p0 &&& (3 : Int32))), .val (.int ((p3 &&& (255 : Int32)).toUInt32.toUInt16.toUInt32.toInt32)), .unset, .unset, .unset] [(.int (112 : Int32)), (.int (8 : Int32)), (.ref b87), (.ref b87)])) (fun t_ k_ => XS.bipush X101.here hx rfl (hb hby at_206) k_) ?_
        obtain ⟨cl103, Ar103, q103, Sz103, Nz103, Hz103, Gz103⟩ := id (V101)
        have hin103 : ¬ ((8 : Int32) < 0 ∨ cl103.slots.size ≤ ((8 : Int32)).toNatClampNeg) := inb_of Sz103 ⟨by decide, by decide⟩
        obtain ⟨T103, h103, X103, e103, W103, st103⟩ := stC X101 hx hZ e101 Ar103 (j := (8 : Int32)) hin103  (g := (mkF m 208 #[.val (.int p0), .val (.int p1), .val (.int p2), .val (.int p3), .val (.int p4), .val (.int (p0 &&& (3 : Int32))), .val (.int ((p3 &&& (255 : Int32)).toUInt32.toUInt16.toUInt32.toInt32)), .unset, .unset, .unset] [(.int (112 : Int32)), (.int (8 : Int32)), (.ref b87), (.ref b87)])) rfl rfl (hb hby at_208)
        have Fz104 := (Safe.wr W101 Fz102 R99.1 Fz102)
        have R103 := R101.trans (CHr.wr W103 Fz104 R101.1)
        have V103 : Arv Z h103 b87 k87 .char (13 : Int32) [(.int (116 : Int32)), (.int (97 : Int32)), (.int (107 : Int32)), (.int (101 : Int32)), (.int (45 : Int32)), (.int (99 : Int32)), (.int (111 : Int32)), (.int (109 : Int32)), (.int (112 : Int32)), (.int (0 : Int32)), (.int (0 : Int32)), (.int (0 : Int32)), (.int (0 : Int32))] (.int (0 : Int32)) := Arv.set Ar103 q103 Sz103 Nz103 Hz103 Gz103 (by decide) W103 8 rfl (Nat.le_of_ble_eq_true rfl)
        have K103 : Keep h0 h103 [] := K101.wr W103 (Or.inr sz_b87)
        have N103 := Fr.snoc X103 N101 ge_b87
        have O103 := own_extW O101 W103 ge_b87
        refine own_go (T103.setTop (mkF m 209 #[.val (.int p0), .val (.int p1), .val (.int p2), .val (.int p3), .val (.int p4), .val (.int (p0 &&& (3 : Int32))), .val (.int ((p3 &&& (255 : Int32)).toUInt32.toUInt16.toUInt32.toInt32)), .unset, .unset, .unset] [(.ref b87)])) (fun t_ k_ => st103 _ k_) ?_
        refine own_go (T103.setTop (mkF m 210 #[.val (.int p0), .val (.int p1), .val (.int p2), .val (.int p3), .val (.int p4), .val (.int (p0 &&& (3 : Int32))), .val (.int ((p3 &&& (255 : Int32)).toUInt32.toUInt16.toUInt32.toInt32)), .unset, .unset, .unset] [(.ref b87), (.ref b87)])) (fun t_ k_ => XS.dup X103.here hx rfl (hb hby at_209) rfl rfl k_) ?_
        refine own_go (T103.setTop (mkF m 212 #[.val (.int p0), .val (.int p1), .val (.int p2), .val (.int p3), .val (.int p4), .val (.int (p0 &&& (3 : Int32))), .val (.int ((p3 &&& (255 : Int32)).toUInt32.toUInt16.toUInt32.toInt32)), .unset, .unset, .unset] [(.int (9 : Int32)), (.ref b87), (.ref b87)])) (fun t_ k_ => XS.bipush X103.here hx rfl (hb hby at_210) k_) ?_
        refine own_go (T103.setTop (mkF m 214 #[.val (.int p0), .val (.int p1), .val (.int p2), .val (.int p3), .val (.int p4), .val (.int (p0 &&& (3 : Int32))), .val (.int ((p3 &&& (255 : Int32)).toUInt32.toUInt16.toUInt32.toInt32)), .unset, .unset, .unset] [(.int (108 : Int32)), (.int (9 : Int32)), (.ref b87), (.ref b87)])) (fun t_ k_ => XS.bipush X103.here hx rfl (hb hby at_212) k_) ?_
        obtain ⟨cl105, Ar105, q105, Sz105, Nz105, Hz105, Gz105⟩ := id (V103)
        have hin105 : ¬ ((9 : Int32) < 0 ∨ cl105.slots.size ≤ ((9 : Int32)).toNatClampNeg) := inb_of Sz105 ⟨by decide, by decide⟩
        obtain ⟨T105, h105, X105, e105, W105, st105⟩ := stC X103 hx hZ e103 Ar105 (j := (9 : Int32)) hin105  (g := (mkF m 214 #[.val (.int p0), .val (.int p1), .val (.int p2), .val (.int p3), .val (.int p4), .val (.int (p0 &&& (3 : Int32))), .val (.int ((p3 &&& (255 : Int32)).toUInt32.toUInt16.toUInt32.toInt32)), .unset, .unset, .unset] [(.int (108 : Int32)), (.int (9 : Int32)), (.ref b87), (.ref b87)])) rfl rfl (hb hby at_214)
        have Fz106 := (Safe.wr W103 Fz104 R101.1 Fz104)
        have R105 := R103.trans (CHr.wr W105 Fz106 R103.1)
        have V105 : Arv Z h105 b87 k87 .char (13 : Int32) [(.int (116 : Int32)), (.int (97 : Int32)), (.int (107 : Int32)), (.int (101 : Int32)), (.int (45 : Int32)), (.int (99 : Int32)), (.int (111 : Int32)), (.int (109 : Int32)), (.int (112 : Int32)), (.int (108 : Int32)), (.int (0 : Int32)), (.int (0 : Int32)), (.int (0 : Int32))] (.int (0 : Int32)) := Arv.set Ar105 q105 Sz105 Nz105 Hz105 Gz105 (by decide) W105 9 rfl (Nat.le_of_ble_eq_true rfl)
        have K105 : Keep h0 h105 [] := K103.wr W105 (Or.inr sz_b87)
        have N105 := Fr.snoc X105 N103 ge_b87
        have O105 := own_extW O103 W105 ge_b87
        refine own_go (T105.setTop (mkF m 215 #[.val (.int p0), .val (.int p1), .val (.int p2), .val (.int p3), .val (.int p4), .val (.int (p0 &&& (3 : Int32))), .val (.int ((p3 &&& (255 : Int32)).toUInt32.toUInt16.toUInt32.toInt32)), .unset, .unset, .unset] [(.ref b87)])) (fun t_ k_ => st105 _ k_) ?_
        refine own_go (T105.setTop (mkF m 216 #[.val (.int p0), .val (.int p1), .val (.int p2), .val (.int p3), .val (.int p4), .val (.int (p0 &&& (3 : Int32))), .val (.int ((p3 &&& (255 : Int32)).toUInt32.toUInt16.toUInt32.toInt32)), .unset, .unset, .unset] [(.ref b87), (.ref b87)])) (fun t_ k_ => XS.dup X105.here hx rfl (hb hby at_215) rfl rfl k_) ?_
        refine own_go (T105.setTop (mkF m 218 #[.val (.int p0), .val (.int p1), .val (.int p2), .val (.int p3), .val (.int p4), .val (.int (p0 &&& (3 : Int32))), .val (.int ((p3 &&& (255 : Int32)).toUInt32.toUInt16.toUInt32.toInt32)), .unset, .unset, .unset] [(.int (10 : Int32)), (.ref b87), (.ref b87)])) (fun t_ k_ => XS.bipush X105.here hx rfl (hb hby at_216) k_) ?_
        refine own_go (T105.setTop (mkF m 220 #[.val (.int p0), .val (.int p1), .val (.int p2), .val (.int p3), .val (.int p4), .val (.int (p0 &&& (3 : Int32))), .val (.int ((p3 &&& (255 : Int32)).toUInt32.toUInt16.toUInt32.toInt32)), .unset, .unset, .unset] [(.int (101 : Int32)), (.int (10 : Int32)), (.ref b87), (.ref b87)])) (fun t_ k_ => XS.bipush X105.here hx rfl (hb hby at_218) k_) ?_
        obtain ⟨cl107, Ar107, q107, Sz107, Nz107, Hz107, Gz107⟩ := id (V105)
        have hin107 : ¬ ((10 : Int32) < 0 ∨ cl107.slots.size ≤ ((10 : Int32)).toNatClampNeg) := inb_of Sz107 ⟨by decide, by decide⟩
        obtain ⟨T107, h107, X107, e107, W107, st107⟩ := stC X105 hx hZ e105 Ar107 (j := (10 : Int32)) hin107  (g := (mkF m 220 #[.val (.int p0), .val (.int p1), .val (.int p2), .val (.int p3), .val (.int p4), .val (.int (p0 &&& (3 : Int32))), .val (.int ((p3 &&& (255 : Int32)).toUInt32.toUInt16.toUInt32.toInt32)), .unset, .unset, .unset] [(.int (101 : Int32)), (.int (10 : Int32)), (.ref b87), (.ref b87)])) rfl rfl (hb hby at_220)
        have Fz108 := (Safe.wr W105 Fz106 R103.1 Fz106)
        have R107 := R105.trans (CHr.wr W107 Fz108 R105.1)
        have V107 : Arv Z h107 b87 k87 .char (13 : Int32) [(.int (116 : Int32)), (.int (97 : Int32)), (.int (107 : Int32)), (.int (101 : Int32)), (.int (45 : Int32)), (.int (99 : Int32)), (.int (111 : Int32)), (.int (109 : Int32)), (.int (112 : Int32)), (.int (108 : Int32)), (.int (101 : Int32)), (.int (0 : Int32)), (.int (0 : Int32))] (.int (0 : Int32)) := Arv.set Ar107 q107 Sz107 Nz107 Hz107 Gz107 (by decide) W107 10 rfl (Nat.le_of_ble_eq_true rfl)
        have K107 : Keep h0 h107 [] := K105.wr W107 (Or.inr sz_b87)
        have N107 := Fr.snoc X107 N105 ge_b87
        have O107 := own_extW O105 W107 ge_b87
        refine own_go (T107.setTop (mkF m 221 #[.val (.int p0), .val (.int p1), .val (.int p2), .val (.int p3), .val (.int p4), .val (.int (p0 &&& (3 : Int32))), .val (.int ((p3 &&& (255 : Int32)).toUInt32.toUInt16.toUInt32.toInt32)), .unset, .unset, .unset] [(.ref b87)])) (fun t_ k_ => st107 _ k_) ?_
        refine own_go (T107.setTop (mkF m 222 #[.val (.int p0), .val (.int p1), .val (.int p2), .val (.int p3), .val (.int p4), .val (.int (p0 &&& (3 : Int32))), .val (.int ((p3 &&& (255 : Int32)).toUInt32.toUInt16.toUInt32.toInt32)), .unset, .unset, .unset] [(.ref b87), (.ref b87)])) (fun t_ k_ => XS.dup X107.here hx rfl (hb hby at_221) rfl rfl k_) ?_
        refine own_go (T107.setTop (mkF m 224 #[.val (.int p0), .val (.int p1), .val (.int p2), .val (.int p3), .val (.int p4), .val (.int (p0 &&& (3 : Int32))), .val (.int ((p3 &&& (255 : Int32)).toUInt32.toUInt16.toUInt32.toInt32)), .unset, .unset, .unset] [(.int (11 : Int32)), (.ref b87), (.ref b87)])) (fun t_ k_ => XS.bipush X107.here hx rfl (hb hby at_222) k_) ?_
        refine own_go (T107.setTop (mkF m 226 #[.val (.int p0), .val (.int p1), .val (.int p2), .val (.int p3), .val (.int p4), .val (.int (p0 &&& (3 : Int32))), .val (.int ((p3 &&& (255 : Int32)).toUInt32.toUInt16.toUInt32.toInt32)), .unset, .unset, .unset] [(.int (116 : Int32)), (.int (11 : Int32)), (.ref b87), (.ref b87)])) (fun t_ k_ => XS.bipush X107.here hx rfl (hb hby at_224) k_) ?_
        obtain ⟨cl109, Ar109, q109, Sz109, Nz109, Hz109, Gz109⟩ := id (V107)
        have hin109 : ¬ ((11 : Int32) < 0 ∨ cl109.slots.size ≤ ((11 : Int32)).toNatClampNeg) := inb_of Sz109 ⟨by decide, by decide⟩
        obtain ⟨T109, h109, X109, e109, W109, st109⟩ := stC X107 hx hZ e107 Ar109 (j := (11 : Int32)) hin109  (g := (mkF m 226 #[.val (.int p0), .val (.int p1), .val (.int p2), .val (.int p3), .val (.int p4), .val (.int (p0 &&& (3 : Int32))), .val (.int ((p3 &&& (255 : Int32)).toUInt32.toUInt16.toUInt32.toInt32)), .unset, .unset, .unset] [(.int (116 : Int32)), (.int (11 : Int32)), (.ref b87), (.ref b87)])) rfl rfl (hb hby at_226)
        have Fz110 := (Safe.wr W107 Fz108 R105.1 Fz108)
        have R109 := R107.trans (CHr.wr W109 Fz110 R107.1)
        have V109 : Arv Z h109 b87 k87 .char (13 : Int32) [(.int (116 : Int32)), (.int (97 : Int32)), (.int (107 : Int32)), (.int (101 : Int32)), (.int (45 : Int32)), (.int (99 : Int32)), (.int (111 : Int32)), (.int (109 : Int32)), (.int (112 : Int32)), (.int (108 : Int32)), (.int (101 : Int32)), (.int (116 : Int32)), (.int (0 : Int32))] (.int (0 : Int32)) := Arv.set Ar109 q109 Sz109 Nz109 Hz109 Gz109 (by decide) W109 11 rfl (Nat.le_of_ble_eq_true rfl)
        have K109 : Keep h0 h109 [] := K107.wr W109 (Or.inr sz_b87)
        have N109 := Fr.snoc X109 N107 ge_b87
        have O109 := own_extW O107 W109 ge_b87
        refine own_go (T109.setTop (mkF m 227 #[.val (.int p0), .val (.int p1), .val (.int p2), .val (.int p3), .val (.int p4), .val (.int (p0 &&& (3 : Int32))), .val (.int ((p3 &&& (255 : Int32)).toUInt32.toUInt16.toUInt32.toInt32)), .unset, .unset, .unset] [(.ref b87)])) (fun t_ k_ => st109 _ k_) ?_
        refine own_go (T109.setTop (mkF m 228 #[.val (.int p0), .val (.int p1), .val (.int p2), .val (.int p3), .val (.int p4), .val (.int (p0 &&& (3 : Int32))), .val (.int ((p3 &&& (255 : Int32)).toUInt32.toUInt16.toUInt32.toInt32)), .unset, .unset, .unset] [(.ref b87), (.ref b87)])) (fun t_ k_ => XS.dup X109.here hx rfl (hb hby at_227) rfl rfl k_) ?_
        refine own_go (T109.setTop (mkF m 230 #[.val (.int p0), .val (.int p1), .val (.int p2), .val (.int p3), .val (.int p4), .val (.int (p0 &&& (3 : Int32))), .val (.int ((p3 &&& (255 : Int32)).toUInt32.toUInt16.toUInt32.toInt32)), .unset, .unset, .unset] [(.int (12 : Int32)), (.ref b87), (.ref b87)])) (fun t_ k_ => XS.bipush X109.here hx rfl (hb hby at_228) k_) ?_
        refine own_go (T109.setTop (mkF m 232 #[.val (.int p0), .val (.int p1), .val (.int p2), .val (.int p3), .val (.int p4), .val (.int (p0 &&& (3 : Int32))), .val (.int ((p3 &&& (255 : Int32)).toUInt32.toUInt16.toUInt32.toInt32)), .unset, .unset, .unset] [(.int (101 : Int32)), (.int (12 : Int32)), (.ref b87), (.ref b87)])) (fun t_ k_ => XS.bipush X109.here hx rfl (hb hby at_230) k_) ?_
        obtain ⟨cl111, Ar111, q111, Sz111, Nz111, Hz111, Gz111⟩ := id (V109)
        have hin111 : ¬ ((12 : Int32) < 0 ∨ cl111.slots.size ≤ ((12 : Int32)).toNatClampNeg) := inb_of Sz111 ⟨by decide, by decide⟩
        obtain ⟨T111, h111, X111, e111, W111, st111⟩ := stC X109 hx hZ e109 Ar111 (j := (12 : Int32)) hin111  (g := (mkF m 232 #[.val (.int p0), .val (.int p1), .val (.int p2), .val (.int p3), .val (.int p4), .val (.int (p0 &&& (3 : Int32))), .val (.int ((p3 &&& (255 : Int32)).toUInt32.toUInt16.toUInt32.toInt32)), .unset, .unset, .unset] [(.int (101 : Int32)), (.int (12 : Int32)), (.ref b87), (.ref b87)])) rfl rfl (hb hby at_232)
        have Fz112 := (Safe.wr W109 Fz110 R107.1 Fz110)
        have R111 := R109.trans (CHr.wr W111 Fz112 R109.1)
        have V111 : Arv Z h111 b87 k87 .char (13 : Int32) [(.int (116 : Int32)), (.int (97 : Int32)), (.int (107 : Int32)), (.int (101 : Int32)), (.int (45 : Int32)), (.int (99 : Int32)), (.int (111 : Int32)), (.int (109 : Int32)), (.int (112 : Int32)), (.int (108 : Int32)), (.int (101 : Int32)), (.int (116 : Int32)), (.int (101 : Int32))] (.int (0 : Int32)) := Arv.set Ar111 q111 Sz111 Nz111 Hz111 Gz111 (by decide) W111 12 rfl (Nat.le_of_ble_eq_true rfl)
        have K111 : Keep h0 h111 [] := K109.wr W111 (Or.inr sz_b87)
        have N111 := Fr.snoc X111 N109 ge_b87
        have O111 := own_extW O109 W111 ge_b87
        refine own_go (T111.setTop (mkF m 233 #[.val (.int p0), .val (.int p1), .val (.int p2), .val (.int p3), .val (.int p4), .val (.int (p0 &&& (3 : Int32))), .val (.int ((p3 &&& (255 : Int32)).toUInt32.toUInt16.toUInt32.toInt32)), .unset, .unset, .unset] [(.ref b87)])) (fun t_ k_ => st111 _ k_) ?_
        refine own_go (T111.setTop (mkF m 235 #[.val (.int p0), .val (.int p1), .val (.int p2), .val (.int p3), .val (.int p4), .val (.int (p0 &&& (3 : Int32))), .val (.int ((p3 &&& (255 : Int32)).toUInt32.toUInt16.toUInt32.toInt32)), .unset, .val (.ref b87), .unset] [])) (fun t_ k_ => XS.astore X111.here hx rfl (hb hby at_233) rfl rfl (l' := #[.val (.int p0), .val (.int p1), .val (.int p2), .val (.int p3), .val (.int p4), .val (.int (p0 &&& (3 : Int32))), .val (.int ((p3 &&& (255 : Int32)).toUInt32.toUInt16.toUInt32.toInt32)), .unset, .val (.ref b87), .unset]) rfl k_) ?_
        refine own_go (T111.setTop (mkF m 237 #[.val (.int p0), .val (.int p1), .val (.int p2), .val (.int p3), .val (.int p4), .val (.int (p0 &&& (3 : Int32))), .val (.int ((p3 &&& (255 : Int32)).toUInt32.toUInt16.toUInt32.toInt32)), .unset, .val (.ref b87), .unset] [(.ref b87)])) (fun t_ k_ => XS.aload X111.here hx rfl (hb hby at_235) rfl rfl k_) ?_
        refine own_go (T111.setTop (mkF m 238 #[.val (.int p0), .val (.int p1), .val (.int p2), .val (.int p3), .val (.int p4), .val (.int (p0 &&& (3 : Int32))), .val (.int ((p3 &&& (255 : Int32)).toUInt32.toUInt16.toUInt32.toInt32)), .unset, .val (.ref b87), .unset] [(.int p2), (.ref b87)])) (fun t_ k_ => XS.iloadN X111.here hx rfl (hb hby at_237) rfl k_) ?_
        refine own_go (T111.setTop (mkF m 240 #[.val (.int p0), .val (.int p1), .val (.int p2), .val (.int p3), .val (.int p4), .val (.int (p0 &&& (3 : Int32))), .val (.int ((p3 &&& (255 : Int32)).toUInt32.toUInt16.toUInt32.toInt32)), .unset, .val (.ref b87), .unset] [(.int (2147483647 : Int32)), (.int p2), (.ref b87)])) (fun t_ k_ => X111.ldcInt hx hown (mvT hZ (hw _ (List.mem_of_getElem? (i := 0) rfl))) (g := (mkF m 238 #[.val (.int p0), .val (.int p1), .val (.int p2), .val (.int p3), .val (.int p4), .val (.int (p0 &&& (3 : Int32))), .val (.int ((p3 &&& (255 : Int32)).toUInt32.toUInt16.toUInt32.toInt32)), .unset, .val (.ref b87), .unset] [(.int p2), (.ref b87)])) rfl (hb hby at_238) _ k_) ?_
        refine own_go (T111.setTop (mkF m 241 #[.val (.int p0), .val (.int p1), .val (.int p2), .val (.int p3), .val (.int p4), .val (.int (p0 &&& (3 : Int32))), .val (.int ((p3 &&& (255 : Int32)).toUInt32.toUInt16.toUInt32.toInt32)), .unset, .val (.ref b87), .unset] [(.int (p2 &&& (2147483647 : Int32))), (.ref b87)])) (fun t_ k_ => XS.iand X111.here hx rfl (hb hby at_240) rfl k_) ?_
        refine own_go (T111.setTop (mkF m 243 #[.val (.int p0), .val (.int p1), .val (.int p2), .val (.int p3), .val (.int p4), .val (.int (p0 &&& (3 : Int32))), .val (.int ((p3 &&& (255 : Int32)).toUInt32.toUInt16.toUInt32.toInt32)), .unset, .val (.ref b87), .unset] [(.int (13 : Int32)), (.int (p2 &&& (2147483647 : Int32))), (.ref b87)])) (fun t_ k_ => XS.bipush X111.here hx rfl (hb hby at_241) k_) ?_
        refine own_go (T111.setTop (mkF m 244 #[.val (.int p0), .val (.int p1), .val (.int p2), .val (.int p3), .val (.int p4), .val (.int (p0 &&& (3 : Int32))), .val (.int ((p3 &&& (255 : Int32)).toUInt32.toUInt16.toUInt32.toInt32)), .unset, .val (.ref b87), .unset] [(.int ((p2 &&& (2147483647 : Int32)) % (13 : Int32))), (.ref b87)])) (fun t_ k_ => Jvm.RoadKit.iremM X111 hx rfl (hb hby at_243) rfl (by decide) k_) ?_
        obtain ⟨i246, hq_i246⟩ : ∃ z, z = ((p2 &&& (2147483647 : Int32)) % (13 : Int32)) := ⟨_, rfl⟩
        have hi246 : ¬ i246 < 0 ∧ i246 < 13 ∧ i246.toNatClampNeg < 13 := by rw [hq_i246]; exact own_ix13 _
        rw [← hq_i246]
        refine own_go (T111.setTop (mkF m 246 #[.val (.int p0), .val (.int p1), .val (.int p2), .val (.int p3), .val (.int p4), .val (.int (p0 &&& (3 : Int32))), .val (.int ((p3 &&& (255 : Int32)).toUInt32.toUInt16.toUInt32.toInt32)), .unset, .val (.ref b87), .unset] [(.int ((p3 &&& (255 : Int32)).toUInt32.toUInt16.toUInt32.toInt32)), (.int i246), (.ref b87)])) (fun t_ k_ => XS.iload X111.here hx rfl (hb hby at_244) rfl k_) ?_
        obtain ⟨cl113, Ar113, q113, Sz113, Nz113, Hz113, Gz113⟩ := id (V111)
        have hin113 : ¬ (i246 < 0 ∨ cl113.slots.size ≤ (i246).toNatClampNeg) := inb_of Sz113 ⟨hi246.1, hi246.2.1⟩
        obtain ⟨T113, h113, X113, e113, W113, st113⟩ := stC X111 hx hZ e111 Ar113 (j := i246) hin113  (g := (mkF m 246 #[.val (.int p0), .val (.int p1), .val (.int p2), .val (.int p3), .val (.int p4), .val (.int (p0 &&& (3 : Int32))), .val (.int ((p3 &&& (255 : Int32)).toUInt32.toUInt16.toUInt32.toInt32)), .unset, .val (.ref b87), .unset] [(.int ((p3 &&& (255 : Int32)).toUInt32.toUInt16.toUInt32.toInt32)), (.int i246), (.ref b87)])) rfl rfl (hb hby at_246)
        have Fz114 := (Safe.wr W111 Fz112 R109.1 Fz112)
        have R113 := R111.trans (CHr.wr W113 Fz114 R111.1)
        have V113 : Arv Z h113 b87 k87 .char (13 : Int32) ((([116, 97, 107, 101, 45, 99, 111, 109, 112, 108, 101, 116, 101] : List Int32).set i246.toNatClampNeg (nar .char ((p3 &&& (255 : Int32)).toUInt32.toUInt16.toUInt32.toInt32))).map Value.int) (.int 0) := by rw [List.map_set]; exact Arv.set Ar113 q113 Sz113 Nz113 Hz113 Gz113 (fits_nar_char _) W113 _ rfl hi246.2.2
        have K113 : Keep h0 h113 [] := K111.wr W113 (Or.inr sz_b87)
        have N113 := Fr.snoc X113 N111 ge_b87
        have O113 := own_extW O111 W113 ge_b87
        refine own_go (T113.setTop (mkF m 247 #[.val (.int p0), .val (.int p1), .val (.int p2), .val (.int p3), .val (.int p4), .val (.int (p0 &&& (3 : Int32))), .val (.int ((p3 &&& (255 : Int32)).toUInt32.toUInt16.toUInt32.toInt32)), .unset, .val (.ref b87), .unset] [])) (fun t_ k_ => st113 _ k_) ?_
        obtain ⟨T115, h115, X115, e115, E115, A115, D115, U115, st115⟩ := newO X113 hx hZ hown (hw _ (List.mem_of_getElem? (i := 83) rfl)) (hw _ (List.mem_of_getElem? (i := 3) rfl)) (hw _ (List.mem_of_getElem? (i := 2) rfl)) e113 (g := (mkF m 247 #[.val (.int p0), .val (.int p1), .val (.int p2), .val (.int p3), .val (.int p4), .val (.int (p0 &&& (3 : Int32))), .val (.int ((p3 &&& (255 : Int32)).toUInt32.toUInt16.toUInt32.toInt32)), .unset, .val (.ref b87), .unset] [])) rfl (hb hby at_247) (by decide) (by decide)
        obtain ⟨b115, g115⟩ : ∃ z, z = h113.size := ⟨_, rfl⟩
        rw [← g115] at A115 D115 U115 st115
        have ge_b115 : Z.heap.size ≤ b115 := Nat.le_trans O113.1 (Nat.le_of_eq g115.symm)
        have sz_b115 : h0.size ≤ b115 := Nat.le_trans K113.1 (Nat.le_of_eq g115.symm)
        have R115 := R113.trans (CHr.ext E115 R113.1)
        have Sf115 := Safe.ext (x := b115) E115 R113.1 (Safe.new (Nat.le_of_eq g115.symm))
        have K115 : Keep h0 h115 [] := K113.ext E115
        have O115 := own_ext O113 E115
        have Fvalue_115 : Fld Z h115 b115 "java/lang/String" "value" "[B" .null := D115 (Or.inr (hw _ (List.mem_of_getElem? (i := 5) rfl))) (ty := (.array .byte)) (by decide)
        have Fcoder_115 : Fld Z h115 b115 "java/lang/String" "coder" "B" (.int (0 : Int32)) := D115 (Or.inr (hw _ (List.mem_of_getElem? (i := 6) rfl))) (ty := .byte) (by decide)
        refine own_go (T115.setTop (mkF m 250 #[.val (.int p0), .val (.int p1), .val (.int p2), .val (.int p3), .val (.int p4), .val (.int (p0 &&& (3 : Int32))), .val (.int ((p3 &&& (255 : Int32)).toUInt32.toUInt16.toUInt32.toInt32)), .unset, .val (.ref b87), .unset] [(.ref b115)])) (fun t_ k_ => st115 _ k_) ?_
        refine own_go (T115.setTop (mkF m 251 #[.val (.int p0), .val (.int p1), .val (.int p2), .val (.int p3), .val (.int p4), .val (.int (p0 &&& (3 : Int32))), .val (.int ((p3 &&& (255 : Int32)).toUInt32.toUInt16.toUInt32.toInt32)), .unset, .val (.ref b87), .unset] [(.ref b115), (.ref b115)])) (fun t_ k_ => XS.dup X115.here hx rfl (hb hby at_250) rfl rfl k_) ?_
        refine own_go (T115.setTop (mkF m 253 #[.val (.int p0), .val (.int p1), .val (.int p2), .val (.int p3), .val (.int p4), .val (.int (p0 &&& (3 : Int32))), .val (.int ((p3 &&& (255 : Int32)).toUInt32.toUInt16.toUInt32.toInt32)), .unset, .val (.ref b87), .unset] [(.ref b87), (.ref b115), (.ref b115)])) (fun t_ k_ => XS.aload X115.here hx rfl (hb hby at_251) rfl rfl k_) ?_
        have hp116 : ∀ c ∈ (([116, 97, 107, 101, 45, 99, 111, 109, 112, 108, 101, 116, 101] : List Int32).set i246.toNatClampNeg (nar .char ((p3 &&& (255 : Int32)).toUInt32.toUInt16.toUInt32.toInt32))), ¬ c < 0 ∧ ¬ (255 : Int32) < c := (own_set ([116, 97, 107, 101, 45, 99, 111, 109, 112, 108, 101, 116, 101] : List Int32) (by decide +kernel) _ _ (own_c255 p3))
        have Fz117 := (V113.ext E115)
        obtain ⟨_, _, ⟨T118, Lu118, ku118, nu118⟩, -, X118, ⟨Lc118, hQ118, lu118, yu118, zu118⟩, st118⟩ := X115.specialBack hx (y := (⟨"java/lang/String", "<init>", "([C)V"⟩ : MethodName)) rfl hown (mvT hZ (hw _ (List.mem_of_getElem? (i := 84) rfl))) (mvT hZ (hw _ (List.mem_of_getElem? (i := 85) rfl))) (mvT hZ (hw _ (List.mem_of_getElem? (i := 86) rfl))) (by decide) (StrChars.Road.backV (W := 1) hZ (fun d hd => hw d (own_words d hd)) (kI := 4) (hw _ (List.mem_of_getElem? (i := 3) rfl)) (cs := (([116, 97, 107, 101, 45, 99, 111, 109, 112, 108, 101, 116, 101] : List Int32).set i246.toNatClampNeg (nar .char ((p3 &&& (255 : Int32)).toUInt32.toUInt16.toUInt32.toInt32)))) (bs := ((([116, 97, 107, 101, 45, 99, 111, 109, 112, 108, 101, 116, 101] : List Int32).set i246.toNatClampNeg (nar .char ((p3 &&& (255 : Int32)).toUInt32.toUInt16.toUInt32.toInt32)))).map (fun c => c.toInt8.toInt32)) (n := 13) (n0 := Z.heap.size) ge_b115 (O115.1) A115 Fvalue_115 Fcoder_115 Fz117 (S_CS.ext O115) n_CS (by simp) rfl (by decide) (by decide) hp116 rfl (by decide) (by decide)) (g := (mkF m 253 #[.val (.int p0), .val (.int p1), .val (.int p2), .val (.int p3), .val (.int p4), .val (.int (p0 &&& (3 : Int32))), .val (.int ((p3 &&& (255 : Int32)).toUInt32.toUInt16.toUInt32.toInt32)), .unset, .val (.ref b87), .unset] [(.ref b87), (.ref b115), (.ref b115)])) rfl (by rw [hml]; rfl) (Steps.refl _) (a := b115) (argsL := [(.ref b87)]) (rest := [(.ref b115)]) (lenOf own_pd7 rfl) rfl (by show 2 * 0 + _ ≤ _; exact Nat.le_of_eq rfl) (hb hby at_253) (fun _ _ => ⟨rfl, e115, (by decide : 2 + 1 ≤ _), (by decide : 17 + 13 ≤ _)⟩)
        dsimp only [Pt.U, Pt.locs, Pt.cells, Pt.slots] at X118 lu118 yu118 zu118 st118 hQ118
        subst lu118 yu118 zu118
        obtain ⟨rfl, N118q, K118q, X118q, C118q, t118, kb118, u1_118, u2_118, u3_118, V118q, A118q⟩ := hQ118
        have N118 := Fr.app N113 N118q
        have O118 := own_extK O115 K118q (allS ge_b115 all0)
        have KK118 : Keep h0 T118.heap [] := K115.trans K118q (allS (Or.inr sz_b115) all0)
        have R118 := R115.trans (CHr.keep K118q (allS Sf115 all0) R115.1)
        refine own_go (T118.setTop (mkF m 256 #[.val (.int p0), .val (.int p1), .val (.int p2), .val (.int p3), .val (.int p4), .val (.int (p0 &&& (3 : Int32))), .val (.int ((p3 &&& (255 : Int32)).toUInt32.toUInt16.toUInt32.toInt32)), .unset, .val (.ref b87), .unset] [(.ref b115)])) (fun t_ k_ => st118.trans k_) ?_
        refine own_go (T118.setTop (mkF m 258 #[.val (.int p0), .val (.int p1), .val (.int p2), .val (.int p3), .val (.int p4), .val (.int (p0 &&& (3 : Int32))), .val (.int ((p3 &&& (255 : Int32)).toUInt32.toUInt16.toUInt32.toInt32)), .val (.ref b115), .val (.ref b87), .unset] [])) (fun t_ k_ => XS.astore X118.here hx rfl (hb hby at_256) rfl rfl (l' := #[.val (.int p0), .val (.int p1), .val (.int p2), .val (.int p3), .val (.int p4), .val (.int (p0 &&& (3 : Int32))), .val (.int ((p3 &&& (255 : Int32)).toUInt32.toUInt16.toUInt32.toInt32)), .val (.ref b115), .val (.ref b87), .unset]) rfl k_) ?_
        exact J1 _ _ _ hS (Nat.le_trans (Nat.le_trans (Nat.le_trans (Nat.le_trans (Nat.le_trans (Nat.le_trans (Nat.le_trans (Nat.le_trans (Nat.le_trans (Nat.le_trans (Nat.le_trans (Nat.le_trans (Nat.le_trans (Nat.le_trans (Nat.le_trans (Nat.le_trans (Nat.le_trans hk E87.1) (Keep.of_wr W88).1) (Keep.of_wr W89).1) (Keep.of_wr W91).1) (Keep.of_wr W93).1) (Keep.of_wr W95).1) (Keep.of_wr W97).1) (Keep.of_wr W99).1) (Keep.of_wr W101).1) (Keep.of_wr W103).1) (Keep.of_wr W105).1) (Keep.of_wr W107).1) (Keep.of_wr W109).1) (Keep.of_wr W111).1) (Keep.of_wr W113).1) E115.1) K118q.1) hZ hown _ _ (X118.more (by decide) (by decide)) N118 rfl O118 KK118 R118 (b115) (t118) (kb118) ((([116, 97, 107, 101, 45, 99, 111, 109, 112, 108, 101, 116, 101] : List Int32).set i246.toNatClampNeg (nar .char ((p3 &&& (255 : Int32)).toUInt32.toUInt16.toUInt32.toInt32)))) (.val (.ref b87)) (hp116) (by first | decide | exact Nat.le_of_ble_eq_true rfl | simp | exact trivial) (One.val rfl) X118q V118q C118q (by rw [List.length_set]; exact A118q)
set_option maxRecDepth 65536 in
set_option maxHeartbeats 40000000 in
theorem comes_1 {Post : Tables → Env → Array Value → State → Outcome → State → Prop} (hpost : ∀ tb e args s v u, (limb_1_1.after args s (.returned v) u = true ∧ limb_1_2.after args s (.returned v) u = true ∧ True) → ReturnedEndW s (.returned v) u (Jvm.fieldLocs frame_1_writes args s ++ Jvm.arrayLocs frame_1_arrays args s ++ Jvm.staticLocs frame_1_statics s) 32 4288 → Post tb e args s (.returned v) u) :
    ArmFor flags0 classFile x code maxLocals ret World_1 tables_1 room_1 Calls_1 rest_1 Pre_1 Post := by
  intro l hfl _ _ p e ha hc hk s m args below hf hA hF happ hP
  obtain ⟨hcalls, hrest, hpre⟩ := hP
  obtain ⟨-, -, -, hnamed, -, -, -, hat⟩ := (Spec.applies_iff hf).mp happ
  obtain ⟨hg, hn⟩ := and_e (Cond.before_iff.mp (show (Jvm.Cond.and given_1 narrow_1).before args s = true from hpre))
  obtain ⟨g1, g2⟩ := and_e hg
  obtain ⟨g3, g4⟩ := and_e g2
  obtain ⟨g5, g6⟩ := and_e g4
  obtain ⟨g7, g8⟩ := and_e g6
  obtain ⟨g9, g10⟩ := and_e g8
  obtain ⟨w0, w1, w2, w3, w4, rfl⟩ : ∃ w0 w1 w2 w3 w4 : Value, args = #[w0, w1, w2, w3, w4] := by
    have hs : args.size = 5 := by simpa [Cond.value, given_1] using g1
    obtain ⟨L⟩ := args
    match L, hs with
    | [w0, w1, w2, w3, w4], _ => exact ⟨w0, w1, w2, w3, w4, rfl⟩
  have hw := fun d (hd : d ∈ tables_1) => atoms_spec (ws := Jvm.Cond.code x code maxLocals ret :: tables_1) hat d (List.mem_cons_of_mem _ hd)
  have hfit : Fit s := fun {y c} hc i hi => by
    obtain ⟨ha, rfl⟩ := Array.getElem?_eq_some_iff.mp hc
    have q := List.all_eq_true.mp ((Array.all_eq_true_iff_forall_mem.mp hF) _ (Array.getElem_mem ha)) i (List.mem_range.mpr hi)
    simpa [Array.getElem?_eq_getElem hi] using q
  obtain ⟨hsets, hown0⟩ := atoms_of _ (rest_1_c_eq ▸ (show rest_1_c.before _ s = true from hrest))
  have hr0 := Cond.before_iff.mp hown0
  obtain ⟨i0, ei0⟩ := is_v g3
  obtain rfl : w0 = (.int i0) := Option.some.inj ei0
  obtain ⟨i1, ei1⟩ := is_v g5
  obtain rfl : w1 = (.int i1) := Option.some.inj ei1
  obtain ⟨i2, ei2⟩ := is_v g7
  obtain rfl : w2 = (.int i2) := Option.some.inj ei2
  obtain ⟨i3, ei3⟩ := is_v g9
  obtain rfl : w3 = (.int i3) := Option.some.inj ei3
  obtain ⟨i4, ei4⟩ := is_v g10
  obtain rfl : w4 = (.int i4) := Option.some.inj ei4
  obtain ⟨hn1, hn2⟩ := and_e hn
  obtain ⟨hn21, hn22⟩ := and_e hn2
  obtain ⟨hn221, hn222⟩ := and_e hn22
  obtain ⟨hn2221, hn2222⟩ := and_e hn222
  obtain ⟨hn22221, hn22222⟩ := and_e hn2222
  obtain ⟨hn222221, hn222222⟩ := and_e hn22222
  obtain ⟨hn2222221, hn2222222⟩ := and_e hn222222
  obtain ⟨hn22222221, hn22222222⟩ := and_e hn2222222
  obtain ⟨hn222222221, hn222222222⟩ := and_e hn22222222
  obtain ⟨hn2222222221, hn2222222222⟩ := and_e hn222222222
  obtain ⟨hn22222222221, hn22222222222⟩ := and_e hn2222222222
  obtain ⟨hn222222222221, hn222222222222⟩ := and_e hn22222222222
  obtain ⟨hn2222222222221, hn2222222222222⟩ := and_e hn222222222222
  obtain ⟨hn22222222222221, hn22222222222222⟩ := and_e hn2222222222222
  obtain ⟨hn222222222222221, hn222222222222222⟩ := and_e hn22222222222222
  obtain ⟨hn2222222222222221, hn2222222222222222⟩ := and_e hn222222222222222
  obtain ⟨hn22222222222222221, hn22222222222222222⟩ := and_e hn2222222222222222
  obtain ⟨hn222222222222222221, hn222222222222222222⟩ := and_e hn22222222222222222
  obtain ⟨hn2222222222222222221, hn2222222222222222222⟩ := and_e hn222222222222222222
  obtain ⟨hn22222222222222222221, hn22222222222222222222⟩ := and_e hn2222222222222222222
  obtain ⟨hn222222222222222222221, hn222222222222222222222⟩ := and_e hn22222222222222222222
  obtain ⟨hn2222222222222222222221, hn2222222222222222222222⟩ := and_e hn222222222222222222222
  obtain ⟨hn22222222222222222222221, hn22222222222222222222222⟩ := and_e hn2222222222222222222222
  obtain ⟨hn222222222222222222222221, hn222222222222222222222222⟩ := and_e hn22222222222222222222222
  obtain ⟨hn2222222222222222222222221, hn2222222222222222222222222⟩ := and_e hn222222222222222222222222
  obtain ⟨hn22222222222222222222222221, hn22222222222222222222222222⟩ := and_e hn2222222222222222222222222
  obtain ⟨hn222222222222222222222222221, hn222222222222222222222222222⟩ := and_e hn22222222222222222222222222
  obtain ⟨hn2222222222222222222222222221, hn2222222222222222222222222222⟩ := and_e hn222222222222222222222222222
  obtain ⟨hn22222222222222222222222222221, hn22222222222222222222222222222⟩ := and_e hn2222222222222222222222222222
  obtain ⟨hn222222222222222222222222222221, hn222222222222222222222222222222⟩ := and_e hn22222222222222222222222222222
  obtain ⟨hn2222222222222222222222222222221, hn2222222222222222222222222222222⟩ := and_e hn222222222222222222222222222222
  obtain ⟨hn22222222222222222222222222222221, hn22222222222222222222222222222222⟩ := and_e hn2222222222222222222222222222222
  obtain ⟨hn222222222222222222222222222222221, hn222222222222222222222222222222222⟩ := and_e hn22222222222222222222222222222222
  obtain ⟨hn2222222222222222222222222222222221, hn2222222222222222222222222222222222⟩ := and_e hn222222222222222222222222222222222
  obtain ⟨hn22222222222222222222222222222222221, hn22222222222222222222222222222222222⟩ := and_e hn2222222222222222222222222222222222
  obtain ⟨hn222222222222222222222222222222222221, hn222222222222222222222222222222222222⟩ := and_e hn22222222222222222222222222222222222
  obtain ⟨hn2222222222222222222222222222222222221, hn2222222222222222222222222222222222222⟩ := and_e hn222222222222222222222222222222222222
  obtain ⟨hn22222222222222222222222222222222222221, hn22222222222222222222222222222222222222⟩ := and_e hn2222222222222222222222222222222222222
  obtain ⟨hn222222222222222222222222222222222222221, hn222222222222222222222222222222222222222⟩ := and_e hn22222222222222222222222222222222222222
  obtain ⟨a_OUT, ev_OUT⟩ := exa_v hn1
  have S_OUT : Sta s s.heap "com/example/tuplebag/tuplebag/bench/Workload" "OUT" "Lcom/example/tuplebag/tuplebag/bench/Workload;" (.ref a_OUT) := Sta.start ev_OUT (Or.inr ⟨(hw _ (List.mem_of_getElem? (i := 15) rfl)), (hw _ (List.mem_of_getElem? (i := 16) rfl))⟩)
  have X_OUT : Exa s s.heap a_OUT "com/example/tuplebag/tuplebag/bench/Workload" := Exa.start ev_OUT hn1
  obtain ⟨a__VALUES, ev__VALUES⟩ := arr_v hn21
  have S__VALUES : Sta s s.heap "com/example/tuplebag/tuplebag/bench/Workload" "$VALUES" "[Lcom/example/tuplebag/tuplebag/bench/Workload;" (.ref a__VALUES) := Sta.start ev__VALUES (Or.inl (hw _ (List.mem_of_getElem? (i := 39) rfl)))
  obtain ⟨cl__VALUES, A__VALUES⟩ := Arr.start ev__VALUES hn21
  have X__VALUES : Exa s s.heap a__VALUES "[Lcom/example/tuplebag/tuplebag/bench/Workload;" := Exa.start ev__VALUES hn221
  obtain ⟨a_INP, ev_INP⟩ := exa_v hn222221
  have S_INP : Sta s s.heap "com/example/tuplebag/tuplebag/bench/Workload" "INP" "Lcom/example/tuplebag/tuplebag/bench/Workload;" (.ref a_INP) := Sta.start ev_INP (Or.inr ⟨(hw _ (List.mem_of_getElem? (i := 15) rfl)), (hw _ (List.mem_of_getElem? (i := 37) rfl))⟩)
  have X_INP : Exa s s.heap a_INP "com/example/tuplebag/tuplebag/bench/Workload" := Exa.start ev_INP hn222221
  obtain ⟨a_TAKE_COMPLETE, ev_TAKE_COMPLETE⟩ := exa_v hn22222221
  have S_TAKE_COMPLETE : Sta s s.heap "com/example/tuplebag/tuplebag/bench/Workload" "TAKE_COMPLETE" "Lcom/example/tuplebag/tuplebag/bench/Workload;" (.ref a_TAKE_COMPLETE) := Sta.start ev_TAKE_COMPLETE (Or.inr ⟨(hw _ (List.mem_of_getElem? (i := 15) rfl)), (hw _ (List.mem_of_getElem? (i := 38) rfl))⟩)
  have X_TAKE_COMPLETE : Exa s s.heap a_TAKE_COMPLETE "com/example/tuplebag/tuplebag/bench/Workload" := Exa.start ev_TAKE_COMPLETE hn22222221
  obtain ⟨a_OUT_text, ev_OUT_text⟩ := exa_v hn2222222221
  have F_OUT_text : Fld s s.heap a_OUT "com/example/tuplebag/tuplebag/bench/Workload" "text" "Ljava/lang/String;" (.ref a_OUT_text) := Fld.start ((fld_at ev_OUT).symm.trans ev_OUT_text)
  have X_OUT_text : Exa s s.heap a_OUT_text "java/lang/String" := Exa.start ev_OUT_text hn2222222221
  obtain ⟨a_INP_text, ev_INP_text⟩ := exa_v hn22222222222222221
  have F_INP_text : Fld s s.heap a_INP "com/example/tuplebag/tuplebag/bench/Workload" "text" "Ljava/lang/String;" (.ref a_INP_text) := Fld.start ((fld_at ev_INP).symm.trans ev_INP_text)
  have X_INP_text : Exa s s.heap a_INP_text "java/lang/String" := Exa.start ev_INP_text hn22222222222222221
  obtain ⟨a_TAKE_COMPLETE_text, ev_TAKE_COMPLETE_text⟩ := exa_v hn2222222222222222222221
  have F_TAKE_COMPLETE_text : Fld s s.heap a_TAKE_COMPLETE "com/example/tuplebag/tuplebag/bench/Workload" "text" "Ljava/lang/String;" (.ref a_TAKE_COMPLETE_text) := Fld.start ((fld_at ev_TAKE_COMPLETE).symm.trans ev_TAKE_COMPLETE_text)
  have X_TAKE_COMPLETE_text : Exa s s.heap a_TAKE_COMPLETE_text "java/lang/String" := Exa.start ev_TAKE_COMPLETE_text hn2222222222222222222221
  obtain ⟨a_OUT_text_value, ev_OUT_text_value⟩ := arr_v hn222222222221
  have F_OUT_text_value : Fld s s.heap a_OUT_text "java/lang/String" "value" "[B" (.ref a_OUT_text_value) := Fld.start ((fld_at ev_OUT_text).symm.trans ev_OUT_text_value)
  obtain ⟨cl_OUT_text_value, A_OUT_text_value⟩ := Arr.start ev_OUT_text_value hn222222222221
  obtain ⟨a_INP_text_value, ev_INP_text_value⟩ := arr_v hn2222222222222222221
  have F_INP_text_value : Fld s s.heap a_INP_text "java/lang/String" "value" "[B" (.ref a_INP_text_value) := Fld.start ((fld_at ev_INP_text).symm.trans ev_INP_text_value)
  obtain ⟨cl_INP_text_value, A_INP_text_value⟩ := Arr.start ev_INP_text_value hn2222222222222222221
  obtain ⟨a_TAKE_COMPLETE_text_value, ev_TAKE_COMPLETE_text_value⟩ := arr_v hn222222222222222222222221
  have F_TAKE_COMPLETE_text_value : Fld s s.heap a_TAKE_COMPLETE_text "java/lang/String" "value" "[B" (.ref a_TAKE_COMPLETE_text_value) := Fld.start ((fld_at ev_TAKE_COMPLETE_text).symm.trans ev_TAKE_COMPLETE_text_value)
  obtain ⟨cl_TAKE_COMPLETE_text_value, A_TAKE_COMPLETE_text_value⟩ := Arr.start ev_TAKE_COMPLETE_text_value hn222222222222222222222221
  have F_OUT_text_coder : Fld s s.heap a_OUT_text "java/lang/String" "coder" "B" (.int (0 : Int32)) := own_fldI hn22222222221 ev_OUT_text
  have F_INP_text_coder : Fld s s.heap a_INP_text "java/lang/String" "coder" "B" (.int (0 : Int32)) := own_fldI hn222222222222222221 ev_INP_text
  have F_TAKE_COMPLETE_text_coder : Fld s s.heap a_TAKE_COMPLETE_text "java/lang/String" "coder" "B" (.int (0 : Int32)) := own_fldI hn22222222222222222222221 ev_TAKE_COMPLETE_text
  have at__VALUES_0 := (own_elemV hn22221 ev__VALUES ev_OUT A__VALUES.1).2
  have at__VALUES_1 := (own_elemV hn2222221 ev__VALUES ev_INP A__VALUES.1).2
  have at__VALUES_2 := (own_elemV hn222222221 ev__VALUES ev_TAKE_COMPLETE A__VALUES.1).2
  obtain ⟨sz__VALUES, ln__VALUES⟩ := IntBox.length_fwd (Cond.before_iff.mpr hn2221) ev__VALUES A__VALUES.1 A__VALUES.2.1 A__VALUES.2.2
  obtain ⟨k__VALUES, hk__VALUES⟩ : ∃ z, z = cl__VALUES.cls := ⟨_, rfl⟩
  have V__VALUES : Arv s s.heap a__VALUES k__VALUES (.object "com/example/tuplebag/tuplebag/bench/Workload") 3 [(.ref a_OUT), (.ref a_INP), (.ref a_TAKE_COMPLETE)] .null := by rw [hk__VALUES]; exact Arv.start hfit A__VALUES sz__VALUES ln__VALUES (by decide) rfl ⟨at__VALUES_0, at__VALUES_1, at__VALUES_2, trivial⟩
  have at_OUT_text_value_0 := (own_elemI hn22222222222221 ev_OUT_text_value A_OUT_text_value.1).2
  have at_OUT_text_value_1 := (own_elemI hn222222222222221 ev_OUT_text_value A_OUT_text_value.1).2
  have at_OUT_text_value_2 := (own_elemI hn2222222222222221 ev_OUT_text_value A_OUT_text_value.1).2
  obtain ⟨sz_OUT_text_value, ln_OUT_text_value⟩ := IntBox.length_fwd (Cond.before_iff.mpr hn2222222222221) ev_OUT_text_value A_OUT_text_value.1 A_OUT_text_value.2.1 A_OUT_text_value.2.2
  obtain ⟨k_OUT_text_value, hk_OUT_text_value⟩ : ∃ z, z = cl_OUT_text_value.cls := ⟨_, rfl⟩
  have V_OUT_text_value : Arv s s.heap a_OUT_text_value k_OUT_text_value .byte 3 [(.int (111 : Int32)), (.int (117 : Int32)), (.int (116 : Int32))] (.int (0 : Int32)) := by rw [hk_OUT_text_value]; exact Arv.start hfit A_OUT_text_value sz_OUT_text_value ln_OUT_text_value (by decide) rfl ⟨at_OUT_text_value_0, at_OUT_text_value_1, at_OUT_text_value_2, trivial⟩
  have at_INP_text_value_0 := (own_elemI hn222222222222222222221 ev_INP_text_value A_INP_text_value.1).2
  have at_INP_text_value_1 := (own_elemI hn22222222222222222222222221 ev_INP_text_value A_INP_text_value.1).2
  have at_INP_text_value_2 := (own_elemI hn222222222222222222222222221 ev_INP_text_value A_INP_text_value.1).2
  obtain ⟨sz_INP_text_value, ln_INP_text_value⟩ := IntBox.length_fwd (Cond.before_iff.mpr hn22222222222222222221) ev_INP_text_value A_INP_text_value.1 A_INP_text_value.2.1 A_INP_text_value.2.2
  obtain ⟨k_INP_text_value, hk_INP_text_value⟩ : ∃ z, z = cl_INP_text_value.cls := ⟨_, rfl⟩
  have V_INP_text_value : Arv s s.heap a_INP_text_value k_INP_text_value .byte 3 [(.int (105 : Int32)), (.int (110 : Int32)), (.int (112 : Int32))] (.int (0 : Int32)) := by rw [hk_INP_text_value]; exact Arv.start hfit A_INP_text_value sz_INP_text_value ln_INP_text_value (by decide) rfl ⟨at_INP_text_value_0, at_INP_text_value_1, at_INP_text_value_2, trivial⟩
  have at_TAKE_COMPLETE_text_value_0 := (own_elemI hn2222222222222222222222222221 ev_TAKE_COMPLETE_text_value A_TAKE_COMPLETE_text_value.1).2
  have at_TAKE_COMPLETE_text_value_1 := (own_elemI hn22222222222222222222222222221 ev_TAKE_COMPLETE_text_value A_TAKE_COMPLETE_text_value.1).2
  have at_TAKE_COMPLETE_text_value_2 := (own_elemI hn222222222222222222222222222221 ev_TAKE_COMPLETE_text_value A_TAKE_COMPLETE_text_value.1).2
  have at_TAKE_COMPLETE_text_value_3 := (own_elemI hn2222222222222222222222222222221 ev_TAKE_COMPLETE_text_value A_TAKE_COMPLETE_text_value.1).2
  have at_TAKE_COMPLETE_text_value_4 := (own_elemI hn22222222222222222222222222222221 ev_TAKE_COMPLETE_text_value A_TAKE_COMPLETE_text_value.1).2
  have at_TAKE_COMPLETE_text_value_5 := (own_elemI hn222222222222222222222222222222221 ev_TAKE_COMPLETE_text_value A_TAKE_COMPLETE_text_value.1).2
  have at_TAKE_COMPLETE_text_value_6 := (own_elemI hn2222222222222222222222222222222221 ev_TAKE_COMPLETE_text_value A_TAKE_COMPLETE_text_value.1).2
  have at_TAKE_COMPLETE_text_value_7 := (own_elemI hn22222222222222222222222222222222221 ev_TAKE_COMPLETE_text_value A_TAKE_COMPLETE_text_value.1).2
  have at_TAKE_COMPLETE_text_value_8 := (own_elemI hn222222222222222222222222222222222221 ev_TAKE_COMPLETE_text_value A_TAKE_COMPLETE_text_value.1).2
  have at_TAKE_COMPLETE_text_value_9 := (own_elemI hn2222222222222222222222222222222222221 ev_TAKE_COMPLETE_text_value A_TAKE_COMPLETE_text_value.1).2
  have at_TAKE_COMPLETE_text_value_10 := (own_elemI hn22222222222222222222222222222222222221 ev_TAKE_COMPLETE_text_value A_TAKE_COMPLETE_text_value.1).2
  have at_TAKE_COMPLETE_text_value_11 := (own_elemI hn222222222222222222222222222222222222221 ev_TAKE_COMPLETE_text_value A_TAKE_COMPLETE_text_value.1).2
  have at_TAKE_COMPLETE_text_value_12 := (own_elemI hn222222222222222222222222222222222222222 ev_TAKE_COMPLETE_text_value A_TAKE_COMPLETE_text_value.1).2
  obtain ⟨sz_TAKE_COMPLETE_text_value, ln_TAKE_COMPLETE_text_value⟩ := IntBox.length_fwd (Cond.before_iff.mpr hn2222222222222222222222221) ev_TAKE_COMPLETE_text_value A_TAKE_COMPLETE_text_value.1 A_TAKE_COMPLETE_text_value.2.1 A_TAKE_COMPLETE_text_value.2.2
  obtain ⟨k_TAKE_COMPLETE_text_value, hk_TAKE_COMPLETE_text_value⟩ : ∃ z, z = cl_TAKE_COMPLETE_text_value.cls := ⟨_, rfl⟩
  have V_TAKE_COMPLETE_text_value : Arv s s.heap a_TAKE_COMPLETE_text_value k_TAKE_COMPLETE_text_value .byte 13 [(.int (116 : Int32)), (.int (97 : Int32)), (.int (107 : Int32)), (.int (101 : Int32)), (.int (45 : Int32)), (.int (99 : Int32)), (.int (111 : Int32)), (.int (109 : Int32)), (.int (112 : Int32)), (.int (108 : Int32)), (.int (101 : Int32)), (.int (116 : Int32)), (.int (101 : Int32))] (.int (0 : Int32)) := by rw [hk_TAKE_COMPLETE_text_value]; exact Arv.start hfit A_TAKE_COMPLETE_text_value sz_TAKE_COMPLETE_text_value ln_TAKE_COMPLETE_text_value (by decide) rfl ⟨at_TAKE_COMPLETE_text_value_0, at_TAKE_COMPLETE_text_value_1, at_TAKE_COMPLETE_text_value_2, at_TAKE_COMPLETE_text_value_3, at_TAKE_COMPLETE_text_value_4, at_TAKE_COMPLETE_text_value_5, at_TAKE_COMPLETE_text_value_6, at_TAKE_COMPLETE_text_value_7, at_TAKE_COMPLETE_text_value_8, at_TAKE_COMPLETE_text_value_9, at_TAKE_COMPLETE_text_value_10, at_TAKE_COMPLETE_text_value_11, at_TAKE_COMPLETE_text_value_12, trivial⟩
  obtain ⟨cs0, ev_CS⟩ := is_v (Cond.before_iff.mp (hsets _ (List.mem_of_getElem? (i := 5) rfl)))
  have S_CS : Sta s s.heap "java/lang/String" "COMPACT_STRINGS" "Z" (.int cs0) := Sta.start ev_CS (Or.inl (hsets _ (List.mem_of_getElem? (i := 4) rfl)))
  have n_CS : ¬ (cs0 = (0 : Int32)) := gotF (Cond.eq_ints ev_CS (Term.int_eval (0))) (not_v (Cond.before_iff.mp (hsets _ (List.mem_of_getElem? (i := 6) rfl))))
  obtain ⟨a_EM, ev_EM⟩ := exa_v (Cond.before_iff.mp (hsets _ (List.mem_of_getElem? (i := 2) rfl)))
  have S_EM : Sta s s.heap "java/util/Optional" "EMPTY" "Ljava/util/Optional;" (.ref a_EM) := Sta.start ev_EM (Or.inl (hsets _ (List.mem_of_getElem? (i := 1) rfl)))
  have X_EM : Exa s s.heap a_EM "java/util/Optional" := Exa.start ev_EM (Cond.before_iff.mp (hsets _ (List.mem_of_getElem? (i := 2) rfl)))
  have F_EM : Fld s s.heap a_EM "java/util/Optional" "value" "Ljava/lang/Object;" .null := own_fldN (Cond.before_iff.mp (hsets _ (List.mem_of_getElem? (i := 3) rfl))) ev_EM
  have hCH : CHv s consts_1 s.vm s.heap := CHv.start (own_EW hw) (fun q hq => hcalls.1 q hq) (hsets _ (List.mem_of_getElem? (i := 6) rfl)) (hw _ (List.mem_of_getElem? (i := 4) rfl)) (hw _ (List.mem_of_getElem? (i := 3) rfl))
  obtain ⟨n, o, h1, h2, h3, _, L, rfl, ⟨rfl, N, -⟩, hq⟩ := rm_law l s _ hw tables_1 i0 i1 i2 i3 i4 a_OUT a__VALUES a_INP a_TAKE_COMPLETE a_OUT_text a_INP_text a_TAKE_COMPLETE_text a_OUT_text_value a_INP_text_value a_TAKE_COMPLETE_text_value a_EM k__VALUES k_OUT_text_value k_INP_text_value k_TAKE_COMPLETE_text_value cs0 s.heap ⟨Nat.le_refl _, fun _ _ q => q⟩ ⟨S_OUT, X_OUT, S__VALUES, X__VALUES, S_INP, X_INP, S_TAKE_COMPLETE, X_TAKE_COMPLETE, F_OUT_text, X_OUT_text, F_INP_text, X_INP_text, F_TAKE_COMPLETE_text, X_TAKE_COMPLETE_text, F_OUT_text_value, F_INP_text_value, F_TAKE_COMPLETE_text_value, F_OUT_text_coder, F_INP_text_coder, F_TAKE_COMPLETE_text_coder, V__VALUES, V_OUT_text_value, V_INP_text_value, V_TAKE_COMPLETE_text_value, S_CS, n_CS, S_EM, X_EM, F_EM⟩  p e ha hc hk s m _ below hf ((Spec.applies_iff_loose hf).mp happ).1 ⟨rfl, State.Warmed39.refl s, rfl, hCH⟩ trivial
  refine ⟨n, _, h1, h2, h3, hpost _ _ _ _ _ _ ⟨Cond.after_iff.mpr rfl, Cond.after_iff.mpr (eq_i res_at (Term.int_eval (1)) rfl), trivial⟩ ⟨hq.1, hq.2.1, hq.2.2.1, (hq.2.2.2.sift fun y hy => Or.inr (N y hy)).mono (by decide) (by decide)⟩⟩
theorem main_1_1 : Claimed_1_1 := comes_1 fun _ _ _ _ _ _ h hF => ⟨h.1, hF⟩
theorem main_1_2 : Claimed_1_2 := comes_1 fun _ _ _ _ _ _ h hF => ⟨h.2.1, hF⟩
end Jvm.Pilot.@@N@@
namespace Jvm.Pilot.@@N@@
open Jvm Jvm.ClassFile Sem Op Lib Jvm.Free Jvm.Stand Jvm.Pilot.@@N@@.Jvm.D
/-! MADE BY PROGRAM (witnessworld.py) out of the Statement's table words and the real class files: 24 classes; the members and pool entries that the words name. The judged class is class 1, her method 1. -/
namespace start1
open Jvm.ClassFile
def u (s : String) : CpInfo := .utf8 (stringToUtf16 s)
/-- a pool by its gaps: so many unusable entries, then the entry; so many at the end -/
def gap : Nat → List CpInfo → List CpInfo
  | 0, r => r
  | n + 1, r => .unusable :: gap n r
def poolList (es : List (Nat × CpInfo)) (last : Nat) : List CpInfo := es.foldr (fun e r => gap e.1 (e.2 :: r)) (gap last [])
def pool (es : List (Nat × CpInfo)) (last : Nat) : Array CpInfo := ⟨poolList es last⟩
def fileOf (pool : Array CpInfo) (this : Nat) (attrs : Array Attribute := #[]) (ms : Array MethodInfo := #[]) (fl : Nat := 33) (sup : Nat := 0) (ifs : Array Nat := #[]) (fds : Array FieldInfo := #[]) : ClassFile where
  minorVersion := 0
  majorVersion := 65
  constantPool := pool
  accessFlags := fl
  thisClass := this
  superClass := sup
  interfaces := ifs
  fields := fds
  methods := ms
  attributes := attrs
def plain (name : String) (sup : Option ClassId) : Class where
  name := name
  kind := .ordinary
  loader := none
  accessFlags := 33
  super := sup
  interfaces := #[]
  cf := none
  fields := #[]
  methods := #[]
  instanceTypes := #[]
  staticTypes := #[]
  resolved := #[]
  callSites := []
  init := .initialized
  statics := none
  mirror := none

def pool0 : Array CpInfo := pool [(5, u "<init>"), (0, u "()V"), (1, .class_ 10), (1, u "java/lang/Object"), (85, u "clone"), (0, u "()Ljava/lang/Object;")] 26

def k0c0 : Code := { maxStack := 0, maxLocals := 1, code := object_method_1_code, exceptionTable := #[], attributes := #[] }
def k0m0 : Method := { name := "<init>", desc := "()V", sig := { parameters := [], returnType := none }, accessFlags := 1, code := some k0c0 }
def k0m1 : Method := { name := "clone", desc := "()Ljava/lang/Object;", sig := { parameters := [], returnType := some (.object "java/lang/Object") }, accessFlags := 260, code := none }
/-- java/lang/Object -/
def k0 : Class := { plain "java/lang/Object" none with
  accessFlags := 33
  interfaces := #[]
  cf := some (fileOf pool0 8 #[] #[{ accessFlags := 1, nameIndex := 5, descriptorIndex := 6, attributes := #[] }, { accessFlags := 260, nameIndex := 96, descriptorIndex := 97, attributes := #[] }] 33 0 #[] #[])
  fields := #[]
  methods := #[k0m0, k0m1]
  instanceTypes := #[]
  staticTypes := #[]
  resolved := Array.replicate 124 none
  statics := none }

def pool1 : Array CpInfo := pool [(2, .class_ 4), (1, u "java/lang/Object"), (0, u "<init>"), (0, u "()V"), (0, .integer 2147483647), (0, .string 9), (0, u "out"), (0, .string 11), (0, u "inp"), (0, .string 13), (0, u "take-complete"), (0, .class_ 15), (0, u "java/lang/String"), (0, .methodref 14 17), (0, .nameAndType 5 18), (0, u "([C)V"), (0, .methodref 20 21), (0, .class_ 22), (0, .nameAndType 23 24), (0, u "com/example/tuplebag/tuplebag/bench/WorkloadNamedPinLaw"), (0, u "drawn"), (0, u "(II)Ljava/lang/String;"), (0, .methodref 14 26), (0, .nameAndType 27 28), (0, u "equals"), (0, u "(Ljava/lang/Object;)Z"), (0, .fieldref 30 31), (0, .class_ 32), (0, .nameAndType 33 34), (0, u "com/example/tuplebag/tuplebag/bench/Workload"), (0, u "OUT"), (0, u "Lcom/example/tuplebag/tuplebag/bench/Workload;"), (0, .fieldref 30 36), (0, .nameAndType 37 34), (0, u "INP"), (0, .fieldref 30 39), (0, .nameAndType 40 34), (0, u "TAKE_COMPLETE"), (0, .methodref 30 42), (0, .nameAndType 43 44), (0, u "named"), (0, u "(Ljava/lang/String;)Ljava/util/Optional;"), (0, .methodref 46 47), (0, .class_ 48), (0, .nameAndType 49 50), (0, u "java/util/Optional"), (0, u "isPresent"), (0, u "()Z"), (0, .methodref 46 52), (0, .nameAndType 53 54), (0, u "get"), (0, u "()Ljava/lang/Object;"), (2, u "law"), (0, u "(IIIII)Z")] 5

def k1m0 : Method := { name := "<init>", desc := "()V", sig := { parameters := [], returnType := none }, accessFlags := 1, code := none }
def k1c1 : Code := { maxStack := 4, maxLocals := 10, code := code, exceptionTable := #[], attributes := #[] }
def k1m1 : Method := { name := "law", desc := "(IIIII)Z", sig := { parameters := [.int, .int, .int, .int, .int], returnType := some .boolean }, accessFlags := 9, code := some k1c1 }
def k1c2 : Code := { maxStack := 6, maxLocals := 6, code := method_3_code, exceptionTable := #[], attributes := #[] }
def k1m2 : Method := { name := "drawn", desc := "(II)Ljava/lang/String;", sig := { parameters := [.int, .int], returnType := some (.object "java/lang/String") }, accessFlags := 10, code := some k1c2 }
/-- com/example/tuplebag/tuplebag/bench/WorkloadNamedPinLaw -/
def k1 : Class := { plain "com/example/tuplebag/tuplebag/bench/WorkloadNamedPinLaw" (some 0) with
  accessFlags := 49
  interfaces := #[]
  cf := some (fileOf pool1 20 #[] #[{ accessFlags := 1, nameIndex := 5, descriptorIndex := 6, attributes := #[] }, { accessFlags := 9, nameIndex := 57, descriptorIndex := 58, attributes := #[] }, { accessFlags := 10, nameIndex := 23, descriptorIndex := 24, attributes := #[] }] 49 2 #[] #[])
  fields := #[]
  methods := #[k1m0, k1m1, k1m2]
  instanceTypes := #[]
  staticTypes := #[]
  resolved := Array.replicate 64 none
  statics := none }

def pool2 : Array CpInfo := pool [(1, .class_ 2), (0, u "java/io/Serializable"), (0, .class_ 4), (0, u "java/lang/Object")] 2

/-- java/io/Serializable -/
def k2 : Class := { plain "java/io/Serializable" (some 0) with
  accessFlags := 1537
  interfaces := #[]
  cf := some (fileOf pool2 1 #[] #[] 1537 3 #[] #[])
  fields := #[]
  methods := #[]
  instanceTypes := #[]
  staticTypes := #[]
  resolved := Array.replicate 7 none
  statics := none }

def pool3 : Array CpInfo := pool [(1, .class_ 2), (0, u "java/lang/Comparable"), (0, .class_ 4), (0, u "java/lang/Object")] 7

/-- java/lang/Comparable -/
def k3 : Class := { plain "java/lang/Comparable" (some 0) with
  accessFlags := 1537
  interfaces := #[]
  cf := some (fileOf pool3 1 #[] #[] 1537 3 #[] #[])
  fields := #[]
  methods := #[]
  instanceTypes := #[]
  staticTypes := #[]
  resolved := Array.replicate 12 none
  statics := none }

def pool4 : Array CpInfo := pool [(2, .class_ 4), (1, u "java/lang/CharSequence"), (42, .class_ 48), (0, u "java/lang/CharSequence$1CodePointIterator"), (10, .class_ 60), (0, u "java/lang/CharSequence$1CharIterator"), (5, .class_ 67), (0, u "java/lang/Object")] 63

/-- java/lang/CharSequence -/
def k4 : Class := { plain "java/lang/CharSequence" (some 0) with
  accessFlags := 1537
  interfaces := #[]
  cf := some (fileOf pool4 2 #[.nestMembers #[47, 59]] #[] 1537 66 #[] #[])
  fields := #[]
  methods := #[]
  instanceTypes := #[]
  staticTypes := #[]
  resolved := Array.replicate 131 none
  statics := none }

def pool5 : Array CpInfo := pool [(1, .class_ 2), (0, u "java/lang/constant/Constable"), (0, .class_ 4), (0, u "java/lang/Object")] 6

/-- java/lang/constant/Constable -/
def k5 : Class := { plain "java/lang/constant/Constable" (some 0) with
  accessFlags := 1537
  interfaces := #[]
  cf := some (fileOf pool5 1 #[] #[] 1537 3 #[] #[])
  fields := #[]
  methods := #[]
  instanceTypes := #[]
  staticTypes := #[]
  resolved := Array.replicate 11 none
  statics := none }

def pool6 : Array CpInfo := pool [(1, .class_ 2), (0, u "java/lang/constant/ConstantDesc"), (0, .class_ 4), (0, u "java/lang/Object")] 32

/-- java/lang/constant/ConstantDesc -/
def k6 : Class := { plain "java/lang/constant/ConstantDesc" (some 0) with
  accessFlags := 1537
  interfaces := #[]
  cf := some (fileOf pool6 1 #[] #[] 1537 3 #[] #[])
  fields := #[]
  methods := #[]
  instanceTypes := #[]
  staticTypes := #[]
  resolved := Array.replicate 37 none
  statics := none }

def pool7 : Array CpInfo := pool [(1, .methodref 2 3), (0, .class_ 4), (0, .nameAndType 5 6), (0, u "java/lang/Object"), (0, u "<init>"), (0, u "()V"), (0, .string 8), (0, u ""), (0, .fieldref 10 11), (0, .class_ 12), (0, .nameAndType 13 14), (0, u "java/lang/String"), (0, u "value"), (0, u "[B"), (0, .fieldref 10 16), (0, .nameAndType 17 18), (0, u "coder"), (0, u "B"), (2, u "hash"), (0, u "I"), (2, u "hashIsZero"), (0, u "Z"), (0, .methodref 10 28), (0, .nameAndType 5 29), (0, u "([CIILjava/lang/Void;)V"), (8, .fieldref 10 39), (0, .nameAndType 40 26), (0, u "COMPACT_STRINGS"), (1, .class_ 44), (1, u "java/lang/StringUTF16"), (0, u "compress"), (1, .methodref 42 48), (0, .nameAndType 49 50), (0, u "coderFromArrayLen"), (0, u "([BI)B"), (56, .class_ 109), (1, u "java/lang/StringLatin1"), (67, .methodref 42 178), (0, .nameAndType 45 179), (0, u "([CII)[B"), (361, .methodref 107 542), (0, .nameAndType 543 544), (0, u "equals"), (0, u "([B[B)Z"), (28, u "(Ljava/lang/Object;)Z"), (1, .class_ 576), (0, u "java/lang/CharSequence"), (22, u "CASE_INSENSITIVE_ORDER"), (0, u "Ljava/util/Comparator;"), (409, u "([C)V"), (90, u "serialPersistentFields"), (0, u "[Ljava/io/ObjectStreamField;"), (0, .class_ 1104), (0, u "java/lang/String$CaseInsensitiveComparator"), (1, .class_ 1107), (0, u "java/io/Serializable"), (0, .class_ 1109), (0, u "java/lang/Comparable"), (0, .class_ 1111), (0, u "java/lang/constant/Constable"), (0, .class_ 1113), (0, u "java/lang/constant/ConstantDesc"), (2, u "serialVersionUID"), (0, u "J"), (3, u "REPL"), (0, u "C"), (2, u "LATIN1"), (1, u "UTF16")] 323

def k7m0 : Method := { name := "<init>", desc := "()V", sig := { parameters := [], returnType := none }, accessFlags := 1, code := none }
def k7c1 : Code := { maxStack := 5, maxLocals := 2, code := jdk_42_method_3_code, exceptionTable := #[], attributes := #[] }
def k7m1 : Method := { name := "<init>", desc := "([C)V", sig := { parameters := [(.array .char)], returnType := none }, accessFlags := 1, code := some k7c1 }
def k7c2 : Code := { maxStack := 2, maxLocals := 3, code := jdk_42_method_66_code, exceptionTable := #[], attributes := #[] }
def k7m2 : Method := { name := "equals", desc := "(Ljava/lang/Object;)Z", sig := { parameters := [(.object "java/lang/Object")], returnType := some .boolean }, accessFlags := 1, code := some k7c2 }
def k7c3 : Code := { maxStack := 4, maxLocals := 6, code := jdk_42_method_149_code, exceptionTable := #[], attributes := #[] }
def k7m3 : Method := { name := "<init>", desc := "([CIILjava/lang/Void;)V", sig := { parameters := [(.array .char), .int, .int, (.object "java/lang/Void")], returnType := none }, accessFlags := 2, code := some k7c3 }
/-- java/lang/String -/
def k7 : Class := { plain "java/lang/String" (some 0) with
  accessFlags := 49
  interfaces := #[2, 3, 4, 5, 6]
  cf := some (fileOf pool7 10 #[.nestMembers #[1103]] #[{ accessFlags := 1, nameIndex := 5, descriptorIndex := 6, attributes := #[] }, { accessFlags := 1, nameIndex := 5, descriptorIndex := 1010, attributes := #[] }, { accessFlags := 1, nameIndex := 543, descriptorIndex := 573, attributes := #[] }, { accessFlags := 2, nameIndex := 5, descriptorIndex := 29, attributes := #[] }] 49 2 #[1106, 1108, 575, 1110, 1112] #[{ accessFlags := 18, nameIndex := 13, descriptorIndex := 14, attributes := #[] }, { accessFlags := 18, nameIndex := 17, descriptorIndex := 18, attributes := #[] }, { accessFlags := 2, nameIndex := 21, descriptorIndex := 22, attributes := #[] }, { accessFlags := 2, nameIndex := 25, descriptorIndex := 26, attributes := #[] }, { accessFlags := 26, nameIndex := 1116, descriptorIndex := 1117, attributes := #[] }, { accessFlags := 24, nameIndex := 40, descriptorIndex := 26, attributes := #[] }, { accessFlags := 26, nameIndex := 1101, descriptorIndex := 1102, attributes := #[] }, { accessFlags := 26, nameIndex := 1121, descriptorIndex := 1122, attributes := #[] }, { accessFlags := 25, nameIndex := 599, descriptorIndex := 600, attributes := #[] }, { accessFlags := 24, nameIndex := 1125, descriptorIndex := 18, attributes := #[] }, { accessFlags := 24, nameIndex := 1127, descriptorIndex := 18, attributes := #[] }])
  fields := #[{ name := "value", type := (.array .byte), accessFlags := 18, slot := 0, constantValue := 0 }, { name := "coder", type := .byte, accessFlags := 18, slot := 1, constantValue := 0 }, { name := "hash", type := .int, accessFlags := 2, slot := 2, constantValue := 0 }, { name := "hashIsZero", type := .boolean, accessFlags := 2, slot := 3, constantValue := 0 }, { name := "serialVersionUID", type := .long, accessFlags := 26, slot := 0, constantValue := 0 }, { name := "COMPACT_STRINGS", type := .boolean, accessFlags := 24, slot := 1, constantValue := 0 }, { name := "serialPersistentFields", type := (.array (.object "java/io/ObjectStreamField")), accessFlags := 26, slot := 2, constantValue := 0 }, { name := "REPL", type := .char, accessFlags := 26, slot := 3, constantValue := 0 }, { name := "CASE_INSENSITIVE_ORDER", type := (.object "java/util/Comparator"), accessFlags := 25, slot := 4, constantValue := 0 }, { name := "LATIN1", type := .byte, accessFlags := 24, slot := 5, constantValue := 0 }, { name := "UTF16", type := .byte, accessFlags := 24, slot := 6, constantValue := 0 }]
  methods := #[k7m0, k7m1, k7m2, k7m3]
  instanceTypes := #[(.array .byte), .byte, .int, .boolean]
  staticTypes := #[.long, .boolean, (.array (.object "java/io/ObjectStreamField")), .char, (.object "java/util/Comparator"), .byte, .byte]
  resolved := Array.replicate 1451 none
  statics := some 0 }

def pool8 : Array CpInfo := pool [(2, .class_ 4), (1, u "java/lang/Enum"), (0, u "name"), (0, u "Ljava/lang/String;"), (2, u "ordinal"), (0, u "I"), (1, .class_ 14), (1, u "java/lang/Object"), (4, u "hash"), (86, .class_ 108), (1, u "java/lang/Enum$EnumDesc"), (2, .class_ 112), (0, u "java/lang/constant/Constable"), (0, .class_ 114), (0, u "java/lang/Comparable"), (0, .class_ 116), (0, u "java/io/Serializable")] 87

/-- java/lang/Enum -/
def k8 : Class := { plain "java/lang/Enum" (some 0) with
  accessFlags := 1057
  interfaces := #[5, 3, 2]
  cf := some (fileOf pool8 2 #[.nestMembers #[106]] #[] 1057 12 #[111, 113, 115] #[{ accessFlags := 18, nameIndex := 5, descriptorIndex := 6, attributes := #[] }, { accessFlags := 18, nameIndex := 9, descriptorIndex := 10, attributes := #[] }, { accessFlags := 2, nameIndex := 19, descriptorIndex := 10, attributes := #[] }])
  fields := #[{ name := "name", type := (.object "java/lang/String"), accessFlags := 18, slot := 0, constantValue := 0 }, { name := "ordinal", type := .int, accessFlags := 18, slot := 1, constantValue := 0 }, { name := "hash", type := .int, accessFlags := 2, slot := 2, constantValue := 0 }]
  methods := #[]
  instanceTypes := #[(.object "java/lang/String"), .int, .int]
  staticTypes := #[]
  resolved := Array.replicate 204 none
  statics := none }

def pool9 : Array CpInfo := pool [(1, .class_ 2), (0, u "com/example/tuplebag/tuplebag/bench/Workload"), (2, u "OUT"), (0, u "Lcom/example/tuplebag/tuplebag/bench/Workload;"), (2, u "INP"), (2, u "TAKE_COMPLETE"), (0, .fieldref 1 14), (0, .nameAndType 15 16), (0, u "$VALUES"), (0, u "[Lcom/example/tuplebag/tuplebag/bench/Workload;"), (0, .methodref 18 19), (0, .class_ 16), (0, .nameAndType 20 21), (0, u "clone"), (0, u "()Ljava/lang/Object;"), (1, .class_ 25), (1, u "java/lang/Enum"), (6, .fieldref 1 33), (0, .nameAndType 34 35), (0, u "text"), (0, u "Ljava/lang/String;"), (0, .methodref 37 38), (0, .class_ 39), (0, .nameAndType 40 41), (0, u "java/util/Optional"), (0, u "empty"), (0, u "()Ljava/util/Optional;"), (0, .methodref 1 43), (0, .nameAndType 44 45), (0, u "values"), (0, u "()[Lcom/example/tuplebag/tuplebag/bench/Workload;"), (0, .methodref 47 48), (0, .class_ 49), (0, .nameAndType 50 51), (0, u "java/lang/String"), (0, u "equals"), (0, u "(Ljava/lang/Object;)Z"), (0, .methodref 37 53), (0, .nameAndType 54 55), (0, u "of"), (0, u "(Ljava/lang/Object;)Ljava/util/Optional;"), (67, u "WRITTEN"), (0, u "Lcom/example/tuplebag/tuplebag/tuple/Template;"), (122, u "LEASE_MS"), (0, u "J"), (6, u "named"), (0, u "(Ljava/lang/String;)Ljava/util/Optional;")] 58

def k9c0 : Code := { maxStack := 1, maxLocals := 0, code := prog_9_method_1_code, exceptionTable := #[], attributes := #[] }
def k9m0 : Method := { name := "values", desc := "()[Lcom/example/tuplebag/tuplebag/bench/Workload;", sig := { parameters := [], returnType := some (.array (.object "com/example/tuplebag/tuplebag/bench/Workload")) }, accessFlags := 9, code := some k9c0 }
def k9c1 : Code := { maxStack := 2, maxLocals := 6, code := prog_9_method_4_code, exceptionTable := #[], attributes := #[] }
def k9m1 : Method := { name := "named", desc := "(Ljava/lang/String;)Ljava/util/Optional;", sig := { parameters := [(.object "java/lang/String")], returnType := some (.object "java/util/Optional") }, accessFlags := 9, code := some k9c1 }
/-- com/example/tuplebag/tuplebag/bench/Workload -/
def k9 : Class := { plain "com/example/tuplebag/tuplebag/bench/Workload" (some 8) with
  accessFlags := 16433
  interfaces := #[]
  cf := some (fileOf pool9 1 #[] #[{ accessFlags := 9, nameIndex := 44, descriptorIndex := 45, attributes := #[] }, { accessFlags := 9, nameIndex := 255, descriptorIndex := 256, attributes := #[] }] 16433 23 #[] #[{ accessFlags := 16409, nameIndex := 5, descriptorIndex := 6, attributes := #[] }, { accessFlags := 16409, nameIndex := 9, descriptorIndex := 6, attributes := #[] }, { accessFlags := 16409, nameIndex := 12, descriptorIndex := 6, attributes := #[] }, { accessFlags := 26, nameIndex := 123, descriptorIndex := 124, attributes := #[] }, { accessFlags := 26, nameIndex := 247, descriptorIndex := 248, attributes := #[] }, { accessFlags := 18, nameIndex := 34, descriptorIndex := 35, attributes := #[] }, { accessFlags := 4122, nameIndex := 15, descriptorIndex := 16, attributes := #[] }])
  fields := #[{ name := "OUT", type := (.object "com/example/tuplebag/tuplebag/bench/Workload"), accessFlags := 16409, slot := 0, constantValue := 0 }, { name := "INP", type := (.object "com/example/tuplebag/tuplebag/bench/Workload"), accessFlags := 16409, slot := 1, constantValue := 0 }, { name := "TAKE_COMPLETE", type := (.object "com/example/tuplebag/tuplebag/bench/Workload"), accessFlags := 16409, slot := 2, constantValue := 0 }, { name := "WRITTEN", type := (.object "com/example/tuplebag/tuplebag/tuple/Template"), accessFlags := 26, slot := 3, constantValue := 0 }, { name := "LEASE_MS", type := .long, accessFlags := 26, slot := 4, constantValue := 0 }, { name := "text", type := (.object "java/lang/String"), accessFlags := 18, slot := 3, constantValue := 0 }, { name := "$VALUES", type := (.array (.object "com/example/tuplebag/tuplebag/bench/Workload")), accessFlags := 4122, slot := 5, constantValue := 0 }]
  methods := #[k9m0, k9m1]
  instanceTypes := #[(.object "java/lang/String"), .int, .int, (.object "java/lang/String")]
  staticTypes := #[(.object "com/example/tuplebag/tuplebag/bench/Workload"), (.object "com/example/tuplebag/tuplebag/bench/Workload"), (.object "com/example/tuplebag/tuplebag/bench/Workload"), (.object "com/example/tuplebag/tuplebag/tuple/Template"), .long, (.array (.object "com/example/tuplebag/tuplebag/bench/Workload"))]
  resolved := Array.replicate 315 none
  statics := some 1 }

def pool10 : Array CpInfo := pool [(1, .fieldref 2 3), (0, .class_ 4), (0, .nameAndType 5 6), (0, u "java/util/Optional"), (0, u "EMPTY"), (0, u "Ljava/util/Optional;"), (0, .methodref 8 9), (0, .class_ 10), (0, .nameAndType 11 12), (0, u "java/lang/Object"), (0, u "<init>"), (0, u "()V"), (0, .fieldref 2 14), (0, .nameAndType 15 16), (0, u "value"), (0, u "Ljava/lang/Object;"), (0, .methodref 18 19), (0, .class_ 20), (0, .nameAndType 21 22), (0, u "java/util/Objects"), (0, u "requireNonNull"), (0, u "(Ljava/lang/Object;)Ljava/lang/Object;"), (0, .methodref 2 24), (0, .nameAndType 11 25), (0, u "(Ljava/lang/Object;)V"), (20, u "()Z"), (8, u "empty"), (0, u "()Ljava/util/Optional;"), (8, u "(Ljava/lang/Object;)Ljava/util/Optional;"), (2, u "isPresent"), (4, u "get"), (0, u "()Ljava/lang/Object;"), (7, u "of")] 104

def k10c0 : Code := { maxStack := 1, maxLocals := 1, code := jdk_32_method_1_code, exceptionTable := #[], attributes := #[] }
def k10m0 : Method := { name := "empty", desc := "()Ljava/util/Optional;", sig := { parameters := [], returnType := some (.object "java/util/Optional") }, accessFlags := 9, code := some k10c0 }
def k10c1 : Code := { maxStack := 2, maxLocals := 2, code := jdk_32_method_2_code, exceptionTable := #[], attributes := #[] }
def k10m1 : Method := { name := "<init>", desc := "(Ljava/lang/Object;)V", sig := { parameters := [(.object "java/lang/Object")], returnType := none }, accessFlags := 2, code := some k10c1 }
def k10c2 : Code := { maxStack := 3, maxLocals := 1, code := jdk_32_method_3_code, exceptionTable := #[], attributes := #[] }
def k10m2 : Method := { name := "of", desc := "(Ljava/lang/Object;)Ljava/util/Optional;", sig := { parameters := [(.object "java/lang/Object")], returnType := some (.object "java/util/Optional") }, accessFlags := 9, code := some k10c2 }
def k10c3 : Code := { maxStack := 3, maxLocals := 1, code := jdk_32_method_5_code, exceptionTable := #[], attributes := #[] }
def k10m3 : Method := { name := "get", desc := "()Ljava/lang/Object;", sig := { parameters := [], returnType := some (.object "java/lang/Object") }, accessFlags := 1, code := some k10c3 }
def k10c4 : Code := { maxStack := 1, maxLocals := 1, code := jdk_32_method_6_code, exceptionTable := #[], attributes := #[] }
def k10m4 : Method := { name := "isPresent", desc := "()Z", sig := { parameters := [], returnType := some .boolean }, accessFlags := 1, code := some k10c4 }
/-- java/util/Optional -/
def k10 : Class := { plain "java/util/Optional" (some 0) with
  accessFlags := 49
  interfaces := #[]
  cf := some (fileOf pool10 2 #[] #[{ accessFlags := 9, nameIndex := 55, descriptorIndex := 56, attributes := #[] }, { accessFlags := 2, nameIndex := 11, descriptorIndex := 25, attributes := #[] }, { accessFlags := 9, nameIndex := 82, descriptorIndex := 65, attributes := #[] }, { accessFlags := 1, nameIndex := 73, descriptorIndex := 74, attributes := #[] }, { accessFlags := 1, nameIndex := 68, descriptorIndex := 46, attributes := #[] }] 49 8 #[] #[{ accessFlags := 26, nameIndex := 5, descriptorIndex := 6, attributes := #[] }, { accessFlags := 18, nameIndex := 15, descriptorIndex := 16, attributes := #[] }])
  fields := #[{ name := "EMPTY", type := (.object "java/util/Optional"), accessFlags := 26, slot := 0, constantValue := 0 }, { name := "value", type := (.object "java/lang/Object"), accessFlags := 18, slot := 0, constantValue := 0 }]
  methods := #[k10m0, k10m1, k10m2, k10m3, k10m4]
  instanceTypes := #[(.object "java/lang/Object")]
  staticTypes := #[(.object "java/util/Optional")]
  resolved := Array.replicate 187 none
  statics := some 2 }

def pool11 : Array CpInfo := pool [(1, .class_ 2), (0, u "java/lang/Cloneable"), (0, .class_ 4), (0, u "java/lang/Object")] 2

/-- java/lang/Cloneable -/
def k11 : Class := { plain "java/lang/Cloneable" (some 0) with
  accessFlags := 1537
  interfaces := #[]
  cf := some (fileOf pool11 1 #[] #[] 1537 3 #[] #[])
  fields := #[]
  methods := #[]
  instanceTypes := #[]
  staticTypes := #[]
  resolved := Array.replicate 7 none
  statics := none }

def pool12 : Array CpInfo := pool [(4, .class_ 6), (1, u "java/lang/Object"), (0, u "<init>"), (0, u "()V"), (5, .class_ 16), (1, u "java/lang/StringLatin1"), (104, u "$assertionsDisabled"), (0, u "Z"), (98, .class_ 223), (1, u "java/lang/StringLatin1$LinesSpliterator"), (57, u "equals"), (0, u "([B[B)Z"), (107, .class_ 391), (0, u "java/lang/StringLatin1$CharsSpliterator")] 3

def k12m0 : Method := { name := "<init>", desc := "()V", sig := { parameters := [], returnType := none }, accessFlags := 0, code := none }
def k12c1 : Code := { maxStack := 3, maxLocals := 3, code := jdk_43_method_13_code, exceptionTable := #[], attributes := #[] }
def k12m1 : Method := { name := "equals", desc := "([B[B)Z", sig := { parameters := [(.array .byte), (.array .byte)], returnType := some .boolean }, accessFlags := 9, code := some k12c1 }
/-- java/lang/StringLatin1 -/
def k12 : Class := { plain "java/lang/StringLatin1" (some 0) with
  accessFlags := 48
  interfaces := #[]
  cf := some (fileOf pool12 14 #[.nestMembers #[390, 221]] #[{ accessFlags := 0, nameIndex := 7, descriptorIndex := 8, attributes := #[] }, { accessFlags := 9, nameIndex := 281, descriptorIndex := 282, attributes := #[] }] 48 4 #[] #[{ accessFlags := 4120, nameIndex := 121, descriptorIndex := 122, attributes := #[] }])
  fields := #[{ name := "$assertionsDisabled", type := .boolean, accessFlags := 4120, slot := 0, constantValue := 0 }]
  methods := #[k12m0, k12m1]
  instanceTypes := #[]
  staticTypes := #[.boolean]
  resolved := Array.replicate 395 none
  statics := none }

def pool13 : Array CpInfo := pool [(2, .class_ 4), (1, u "java/lang/Object"), (0, u "<init>"), (0, u "()V"), (35, .class_ 44), (1, u "java/util/Objects"), (0, u "requireNonNull"), (0, u "(Ljava/lang/Object;)Ljava/lang/Object;")] 137

def k13m0 : Method := { name := "<init>", desc := "()V", sig := { parameters := [], returnType := none }, accessFlags := 2, code := none }
def k13c1 : Code := { maxStack := 2, maxLocals := 1, code := jdk_31_method_10_code, exceptionTable := #[], attributes := #[] }
def k13m1 : Method := { name := "requireNonNull", desc := "(Ljava/lang/Object;)Ljava/lang/Object;", sig := { parameters := [(.object "java/lang/Object")], returnType := some (.object "java/lang/Object") }, accessFlags := 9, code := some k13c1 }
/-- java/util/Objects -/
def k13 : Class := { plain "java/util/Objects" (some 0) with
  accessFlags := 49
  interfaces := #[]
  cf := some (fileOf pool13 42 #[] #[{ accessFlags := 2, nameIndex := 5, descriptorIndex := 6, attributes := #[] }, { accessFlags := 9, nameIndex := 45, descriptorIndex := 46, attributes := #[] }] 49 2 #[] #[])
  fields := #[]
  methods := #[k13m0, k13m1]
  instanceTypes := #[]
  staticTypes := #[]
  resolved := Array.replicate 184 none
  statics := none }

def pool14 : Array CpInfo := pool [(6, .class_ 8), (1, u "java/lang/Object"), (0, u "<init>"), (0, u "()V"), (1, .class_ 14), (1, u "java/lang/StringUTF16"), (31, u "$assertionsDisabled"), (0, u "Z"), (13, u "HI_BYTE_SHIFT"), (0, u "I"), (2, u "LO_BYTE_SHIFT"), (49, .methodref 12 116), (0, .nameAndType 117 118), (0, u "compress"), (0, u "([CI[BII)I"), (3, u "([CII)[B"), (138, u "coderFromArrayLen"), (0, u "([BI)B"), (106, .class_ 371), (1, u "java/lang/StringUTF16$LinesSpliterator"), (58, u "MAX_LENGTH"), (196, .class_ 628), (0, u "java/lang/StringUTF16$CodePointsSpliterator"), (0, .class_ 630), (0, u "java/lang/StringUTF16$CharsSpliterator")] 4

def k14m0 : Method := { name := "<init>", desc := "()V", sig := { parameters := [], returnType := none }, accessFlags := 0, code := none }
def k14c1 : Code := { maxStack := 2, maxLocals := 2, code := jdk_52_method_15_code, exceptionTable := #[], attributes := #[] }
def k14m1 : Method := { name := "coderFromArrayLen", desc := "([BI)B", sig := { parameters := [(.array .byte), .int], returnType := some .byte }, accessFlags := 8, code := some k14c1 }
def k14c2 : Code := { maxStack := 5, maxLocals := 6, code := jdk_52_method_16_code, exceptionTable := #[], attributes := #[] }
def k14m2 : Method := { name := "compress", desc := "([CII)[B", sig := { parameters := [(.array .char), .int, .int], returnType := some (.array .byte) }, accessFlags := 9, code := some k14c2 }
def k14c3 : Code := { maxStack := 3, maxLocals := 7, code := jdk_52_method_21_code, exceptionTable := #[], attributes := #[] }
def k14m3 : Method := { name := "compress", desc := "([CI[BII)I", sig := { parameters := [(.array .char), .int, (.array .byte), .int, .int], returnType := some .int }, accessFlags := 9, code := some k14c3 }
/-- java/lang/StringUTF16 -/
def k14 : Class := { plain "java/lang/StringUTF16" (some 0) with
  accessFlags := 48
  interfaces := #[]
  cf := some (fileOf pool14 12 #[.nestMembers #[627, 629, 369]] #[{ accessFlags := 0, nameIndex := 9, descriptorIndex := 10, attributes := #[] }, { accessFlags := 8, nameIndex := 261, descriptorIndex := 262, attributes := #[] }, { accessFlags := 9, nameIndex := 117, descriptorIndex := 122, attributes := #[] }, { accessFlags := 9, nameIndex := 117, descriptorIndex := 118, attributes := #[] }] 48 6 #[] #[{ accessFlags := 26, nameIndex := 61, descriptorIndex := 62, attributes := #[] }, { accessFlags := 26, nameIndex := 65, descriptorIndex := 62, attributes := #[] }, { accessFlags := 24, nameIndex := 430, descriptorIndex := 62, attributes := #[] }, { accessFlags := 4120, nameIndex := 46, descriptorIndex := 47, attributes := #[] }])
  fields := #[{ name := "HI_BYTE_SHIFT", type := .int, accessFlags := 26, slot := 0, constantValue := 0 }, { name := "LO_BYTE_SHIFT", type := .int, accessFlags := 26, slot := 1, constantValue := 0 }, { name := "MAX_LENGTH", type := .int, accessFlags := 24, slot := 2, constantValue := 0 }, { name := "$assertionsDisabled", type := .boolean, accessFlags := 4120, slot := 3, constantValue := 0 }]
  methods := #[k14m0, k14m1, k14m2, k14m3]
  instanceTypes := #[]
  staticTypes := #[.int, .int, .int, .boolean]
  resolved := Array.replicate 635 none
  statics := none }

def pool15 : Array CpInfo := pool [(2, .class_ 4), (1, u "java/lang/Object"), (0, u "<init>"), (0, u "()V"), (17, .class_ 26), (1, u "jdk/internal/util/Preconditions"), (28, .class_ 56), (0, u "jdk/internal/util/Preconditions$4"), (57, .class_ 115), (0, u "jdk/internal/util/Preconditions$1"), (7, u "SIOOBE_FORMATTER"), (0, u "Ljava/util/function/BiFunction;"), (0, .class_ 126), (0, u "jdk/internal/util/Preconditions$2"), (3, u "AIOOBE_FORMATTER"), (0, .class_ 132), (0, u "jdk/internal/util/Preconditions$3"), (3, u "IOOBE_FORMATTER")] 57

def k15m0 : Method := { name := "<init>", desc := "()V", sig := { parameters := [], returnType := none }, accessFlags := 1, code := none }
/-- jdk/internal/util/Preconditions -/
def k15 : Class := { plain "jdk/internal/util/Preconditions" (some 0) with
  accessFlags := 33
  interfaces := #[]
  cf := some (fileOf pool15 24 #[.nestMembers #[55, 131, 125, 114]] #[{ accessFlags := 1, nameIndex := 5, descriptorIndex := 6, attributes := #[] }] 33 2 #[] #[{ accessFlags := 25, nameIndex := 123, descriptorIndex := 124, attributes := #[] }, { accessFlags := 25, nameIndex := 130, descriptorIndex := 124, attributes := #[] }, { accessFlags := 25, nameIndex := 136, descriptorIndex := 124, attributes := #[] }])
  fields := #[{ name := "SIOOBE_FORMATTER", type := (.object "java/util/function/BiFunction"), accessFlags := 25, slot := 0, constantValue := 0 }, { name := "AIOOBE_FORMATTER", type := (.object "java/util/function/BiFunction"), accessFlags := 25, slot := 1, constantValue := 0 }, { name := "IOOBE_FORMATTER", type := (.object "java/util/function/BiFunction"), accessFlags := 25, slot := 2, constantValue := 0 }]
  methods := #[k15m0]
  instanceTypes := #[]
  staticTypes := #[(.object "java/util/function/BiFunction"), (.object "java/util/function/BiFunction"), (.object "java/util/function/BiFunction")]
  resolved := Array.replicate 194 none
  statics := some 3 }

def pool16 : Array CpInfo := pool [(9, u "<init>"), (6, .class_ 18), (1, u "java/lang/Object"), (0, u "()V"), (1, .class_ 23), (1, u "jdk/internal/util/ArraysSupport"), (0, u "LOG2_ARRAY_LONG_INDEX_SCALE"), (0, u "I"), (2, u "U"), (0, u "Ljdk/internal/misc/Unsafe;"), (8, u "BIG_ENDIAN"), (0, u "Z"), (8, u "LOG2_BYTE_BIT_SIZE"), (4, u "LOG2_ARRAY_INT_INDEX_SCALE"), (54, u "JLA"), (0, u "Ljdk/internal/access/JavaLangAccess;"), (11, u "LOG2_ARRAY_BOOLEAN_INDEX_SCALE"), (9, u "LOG2_ARRAY_BYTE_INDEX_SCALE"), (5, u "LOG2_ARRAY_CHAR_INDEX_SCALE"), (5, u "LOG2_ARRAY_SHORT_INDEX_SCALE"), (18, u "LOG2_ARRAY_FLOAT_INDEX_SCALE"), (24, u "LOG2_ARRAY_DOUBLE_INDEX_SCALE"), (89, u "T_BOOLEAN"), (2, u "T_CHAR"), (1, u "T_FLOAT"), (1, u "T_DOUBLE"), (1, u "T_BYTE"), (1, u "T_SHORT"), (1, u "T_INT"), (1, u "T_LONG"), (1, u "SOFT_MAX_ARRAY_LENGTH")] 83

def k16m0 : Method := { name := "<init>", desc := "()V", sig := { parameters := [], returnType := none }, accessFlags := 2, code := none }
/-- jdk/internal/util/ArraysSupport -/
def k16 : Class := { plain "jdk/internal/util/ArraysSupport" (some 0) with
  accessFlags := 33
  interfaces := #[]
  cf := some (fileOf pool16 21 #[] #[{ accessFlags := 2, nameIndex := 9, descriptorIndex := 19, attributes := #[] }] 33 16 #[] #[{ accessFlags := 24, nameIndex := 28, descriptorIndex := 29, attributes := #[] }, { accessFlags := 26, nameIndex := 38, descriptorIndex := 39, attributes := #[] }, { accessFlags := 25, nameIndex := 121, descriptorIndex := 25, attributes := #[] }, { accessFlags := 25, nameIndex := 131, descriptorIndex := 25, attributes := #[] }, { accessFlags := 25, nameIndex := 137, descriptorIndex := 25, attributes := #[] }, { accessFlags := 25, nameIndex := 143, descriptorIndex := 25, attributes := #[] }, { accessFlags := 25, nameIndex := 53, descriptorIndex := 25, attributes := #[] }, { accessFlags := 25, nameIndex := 24, descriptorIndex := 25, attributes := #[] }, { accessFlags := 25, nameIndex := 162, descriptorIndex := 25, attributes := #[] }, { accessFlags := 25, nameIndex := 187, descriptorIndex := 25, attributes := #[] }, { accessFlags := 26, nameIndex := 48, descriptorIndex := 25, attributes := #[] }, { accessFlags := 25, nameIndex := 277, descriptorIndex := 25, attributes := #[] }, { accessFlags := 25, nameIndex := 280, descriptorIndex := 25, attributes := #[] }, { accessFlags := 25, nameIndex := 282, descriptorIndex := 25, attributes := #[] }, { accessFlags := 25, nameIndex := 284, descriptorIndex := 25, attributes := #[] }, { accessFlags := 25, nameIndex := 286, descriptorIndex := 25, attributes := #[] }, { accessFlags := 25, nameIndex := 288, descriptorIndex := 25, attributes := #[] }, { accessFlags := 25, nameIndex := 290, descriptorIndex := 25, attributes := #[] }, { accessFlags := 25, nameIndex := 292, descriptorIndex := 25, attributes := #[] }, { accessFlags := 26, nameIndex := 108, descriptorIndex := 109, attributes := #[] }, { accessFlags := 25, nameIndex := 294, descriptorIndex := 25, attributes := #[] }])
  fields := #[{ name := "U", type := (.object "jdk/internal/misc/Unsafe"), accessFlags := 24, slot := 0, constantValue := 0 }, { name := "BIG_ENDIAN", type := .boolean, accessFlags := 26, slot := 1, constantValue := 0 }, { name := "LOG2_ARRAY_BOOLEAN_INDEX_SCALE", type := .int, accessFlags := 25, slot := 2, constantValue := 0 }, { name := "LOG2_ARRAY_BYTE_INDEX_SCALE", type := .int, accessFlags := 25, slot := 3, constantValue := 0 }, { name := "LOG2_ARRAY_CHAR_INDEX_SCALE", type := .int, accessFlags := 25, slot := 4, constantValue := 0 }, { name := "LOG2_ARRAY_SHORT_INDEX_SCALE", type := .int, accessFlags := 25, slot := 5, constantValue := 0 }, { name := "LOG2_ARRAY_INT_INDEX_SCALE", type := .int, accessFlags := 25, slot := 6, constantValue := 0 }, { name := "LOG2_ARRAY_LONG_INDEX_SCALE", type := .int, accessFlags := 25, slot := 7, constantValue := 0 }, { name := "LOG2_ARRAY_FLOAT_INDEX_SCALE", type := .int, accessFlags := 25, slot := 8, constantValue := 0 }, { name := "LOG2_ARRAY_DOUBLE_INDEX_SCALE", type := .int, accessFlags := 25, slot := 9, constantValue := 0 }, { name := "LOG2_BYTE_BIT_SIZE", type := .int, accessFlags := 26, slot := 10, constantValue := 0 }, { name := "T_BOOLEAN", type := .int, accessFlags := 25, slot := 11, constantValue := 0 }, { name := "T_CHAR", type := .int, accessFlags := 25, slot := 12, constantValue := 0 }, { name := "T_FLOAT", type := .int, accessFlags := 25, slot := 13, constantValue := 0 }, { name := "T_DOUBLE", type := .int, accessFlags := 25, slot := 14, constantValue := 0 }, { name := "T_BYTE", type := .int, accessFlags := 25, slot := 15, constantValue := 0 }, { name := "T_SHORT", type := .int, accessFlags := 25, slot := 16, constantValue := 0 }, { name := "T_INT", type := .int, accessFlags := 25, slot := 17, constantValue := 0 }, { name := "T_LONG", type := .int, accessFlags := 25, slot := 18, constantValue := 0 }, { name := "JLA", type := (.object "jdk/internal/access/JavaLangAccess"), accessFlags := 26, slot := 19, constantValue := 0 }, { name := "SOFT_MAX_ARRAY_LENGTH", type := .int, accessFlags := 25, slot := 20, constantValue := 0 }]
  methods := #[k16m0]
  instanceTypes := #[]
  staticTypes := #[(.object "jdk/internal/misc/Unsafe"), .boolean, .int, .int, .int, .int, .int, .int, .int, .int, .int, .int, .int, .int, .int, .int, .int, .int, .int, (.object "jdk/internal/access/JavaLangAccess"), .int]
  resolved := Array.replicate 378 none
  statics := none }

/-- the primitive byte -/
def k17 : Class := { plain "byte" none with kind := .primitive 'B', accessFlags := 0x411 }
/-- [B -/
def k18 : Class := { plain "[B" (some 0) with kind := .array 17 .byte, interfaces := #[11, 2], accessFlags := 1041 }

/-- the primitive char -/
def k19 : Class := { plain "char" none with kind := .primitive 'C', accessFlags := 0x411 }
/-- [C -/
def k20 : Class := { plain "[C" (some 0) with kind := .array 19 .char, interfaces := #[11, 2], accessFlags := 1041 }

/-- the primitive int -/
def k21 : Class := { plain "int" none with kind := .primitive 'I', accessFlags := 0x411 }
/-- [I -/
def k22 : Class := { plain "[I" (some 0) with kind := .array 21 .int, interfaces := #[11, 2], accessFlags := 1041 }

/-- [Lcom/example/tuplebag/tuplebag/bench/Workload; -/
def k23 : Class := { plain "[Lcom/example/tuplebag/tuplebag/bench/Workload;" (some 0) with kind := .array 9 (.object "com/example/tuplebag/tuplebag/bench/Workload"), interfaces := #[11, 2], accessFlags := 1041 }

def heap : Heap := #[{ cls := 7, slots := #[.long 0, .int 1, .null, .int 0, .null, .int 0, .int 0], vm := .statics 7 },
  { cls := 9, slots := #[.ref 5, .ref 6, .ref 7, .null, .long 0, .ref 4], vm := .statics 9 },
  { cls := 10, slots := #[.ref 14], vm := .statics 10 },
  { cls := 15, slots := #[.null, .null, .null], vm := .statics 15 },
  { cls := 23, slots := #[.ref 5, .ref 6, .ref 7], vm := .none },
  { cls := 9, slots := #[.null, .int 0, .int 0, .ref 8], vm := .none },
  { cls := 9, slots := #[.null, .int 0, .int 0, .ref 9], vm := .none },
  { cls := 9, slots := #[.null, .int 0, .int 0, .ref 10], vm := .none },
  { cls := 7, slots := #[.ref 11, .int 0, .int 0, .int 0], vm := .none },
  { cls := 7, slots := #[.ref 12, .int 0, .int 0, .int 0], vm := .none },
  { cls := 7, slots := #[.ref 13, .int 0, .int 0, .int 0], vm := .none },
  { cls := 18, slots := #[.int 111, .int 117, .int 116], vm := .none },
  { cls := 18, slots := #[.int 105, .int 110, .int 112], vm := .none },
  { cls := 18, slots := #[.int 116, .int 97, .int 107, .int 101, .int 45, .int 99, .int 111, .int 109, .int 112, .int 108, .int 101, .int 116, .int 101], vm := .none },
  { cls := 10, slots := #[.null], vm := .none }]
def classes : Array Class := #[k0, k1, k2, k3, k4, k5, k6, k7, k8, k9, k10, k11, k12, k13, k14, k15, k16, k17, k18, k19, k20, k21, k22, k23]
def interned : List (Array UInt16 × Addr) := []
def slotsUsed : Nat := 64
def theMethod : MethodId := ⟨1, 1⟩
def args0 : Array Value := #[.int 1, .int 2, .int 3, .int 4, .int 5]
def aboutOver (below : List Frame) : State where
  vm := { classes := classes, interned := interned.toArray }
  heap := heap
  slotsUsed := slotsUsed
  threads := #[{ frames := .invoking theMethod args0 :: below }]
def below0 : List Frame := [.native { method := ⟨0, 0⟩, args := #[] }]
def about1 : State := aboutOver below0
def p0 : Program := .bare "" "" ""
def e0 : Env := launch0.env 0 0 0
theorem w_frames : about1.frames = Frame.invoking theMethod args0 :: below0 := rfl
set_option maxRecDepth 65536 in
theorem w_args : argsFit about1.vm theMethod args0 = true := by decide +kernel
set_option maxRecDepth 65536 in
theorem w_heap : heapFits about1 = true := by decide +kernel
set_option maxRecDepth 65536 in
theorem w_runnable : about1.curStatus? = some .runnable := by decide +kernel
set_option maxRecDepth 65536 in
theorem w_alone : about1.alone = true := by decide +kernel
set_option maxRecDepth 65536 in
theorem w_named : about1.methodNamed? x = some theMethod := by decide +kernel
set_option maxRecDepth 65536 in
theorem w_hears : about1.hears theMethod below0 = true := by decide +kernel
set_option maxRecDepth 65536 in
theorem w_ripe : about1.ripe theMethod args0 below0 = true := by decide +kernel
theorem w_running : about1.status = .running := rfl
set_option maxRecDepth 65536 in
theorem w_room : about1.hasRoom e0.platform room_1 = true :=
  launch0.hasRoom_least _ room_1 (by decide +kernel) (by decide +kernel) (by decide +kernel) (by decide +kernel) (by decide +kernel) (by decide +kernel)
theorem allAtoms_all (ts : List Jvm.Cond) (a : Array Jvm.Value) (st : Jvm.State) : (allAtoms ts).before a st = ts.all (fun c => c.before a st) := by
  induction ts with
  | nil => rfl
  | cons c t ih =>
    show (Jvm.Cond.and c (allAtoms t)).before a st = _
    rw [Jvm.Cond.before_and, ih, List.all_cons]
def words1 : List Jvm.Cond := Jvm.Cond.code x code maxLocals ret :: tables_1
/-- a 'code' word, met by the world's own term for the bytes: nothing is compared byte by byte -/
theorem code_word {y : MethodName} {bytes : ByteArray} {mx : Nat} {rt : Option FieldType} {a : Array Value} {s : State} {m : MethodId} {meth : Method} {c : Code} (h1 : s.methodNamed? y = some m) (h2 : s.vm.method? m = some meth) (h3 : meth.code = some c) (h4 : c.code = bytes)
    (h5 : (c.maxLocals == mx && c.exceptionTable.isEmpty && decide (c.maxStack ≤ mostOperands) && decide (meth.sig.returnType = rt) && !meth.locks && decide (parseMethodDescriptor y.desc = some meth.sig)) = true) : (Jvm.Cond.code y bytes mx rt).before a s = true := by
  simp only [Bool.and_eq_true, beq_iff_eq, Bool.not_eq_true', decide_eq_true_eq] at h5
  obtain ⟨⟨⟨⟨⟨g1, g2⟩, g3⟩, g4⟩, g5⟩, g6⟩ := h5
  simp [Cond.before, Cond.holds, Cond.value, h1, h2, h3, h4, g1, g2, g3, g4, g5, g6]
def isCode : Jvm.Cond → Bool
  | .code _ _ _ _ => true
  | _ => false
theorem all_split {L : List Jvm.Cond} {P : Jvm.Cond → Bool} (h1 : L.all (fun c => isCode c || P c) = true) (h2 : ∀ c ∈ L.filter isCode, P c = true) : L.all P = true := by
  refine List.all_eq_true.mpr fun c hc => ?_
  have h := List.all_eq_true.mp h1 c hc
  rcases Bool.eq_false_or_eq_true (isCode c) with hi | hi
  · exact h2 c (List.mem_filter.mpr ⟨hc, hi⟩)
  · simpa [hi] using h
set_option maxRecDepth 65536 in
theorem w_c0 : (Jvm.Cond.code x code maxLocals ret).before args0 about1 = true := code_word (m := ⟨1, 1⟩) (meth := k1m1) (c := k1c1) (by decide +kernel) rfl rfl rfl (by decide +kernel)
set_option maxRecDepth 65536 in
theorem w_c1 : (Jvm.Cond.code ({ cls := "java/lang/String", name := "equals", desc := "(Ljava/lang/Object;)Z" } : Jvm.MethodName) jdk_42_method_66_code (3 : Nat) (Option.some Jvm.ClassFile.FieldType.boolean)).before args0 about1 = true := code_word (m := ⟨7, 2⟩) (meth := k7m2) (c := k7c2) (by decide +kernel) rfl rfl rfl (by decide +kernel)
set_option maxRecDepth 65536 in
theorem w_c2 : (Jvm.Cond.code ({ cls := "com/example/tuplebag/tuplebag/bench/Workload", name := "named", desc := "(Ljava/lang/String;)Ljava/util/Optional;" } : Jvm.MethodName) prog_9_method_4_code (6 : Nat) (Option.some (Jvm.ClassFile.FieldType.object "java/util/Optional"))).before args0 about1 = true := code_word (m := ⟨9, 1⟩) (meth := k9m1) (c := k9c1) (by decide +kernel) rfl rfl rfl (by decide +kernel)
set_option maxRecDepth 65536 in
theorem w_c3 : (Jvm.Cond.code ({ cls := "java/util/Optional", name := "empty", desc := "()Ljava/util/Optional;" } : Jvm.MethodName) jdk_32_method_1_code (1 : Nat) (Option.some (Jvm.ClassFile.FieldType.object "java/util/Optional"))).before args0 about1 = true := code_word (m := ⟨10, 0⟩) (meth := k10m0) (c := k10c0) (by decide +kernel) rfl rfl rfl (by decide +kernel)
set_option maxRecDepth 65536 in
theorem w_c4 : (Jvm.Cond.code ({ cls := "com/example/tuplebag/tuplebag/bench/Workload", name := "values", desc := "()[Lcom/example/tuplebag/tuplebag/bench/Workload;" } : Jvm.MethodName) prog_9_method_1_code (0 : Nat) (Option.some (Jvm.ClassFile.FieldType.array (Jvm.ClassFile.FieldType.object "com/example/tuplebag/tuplebag/bench/Workload")))).before args0 about1 = true := code_word (m := ⟨9, 0⟩) (meth := k9m0) (c := k9c0) (by decide +kernel) rfl rfl rfl (by decide +kernel)
set_option maxRecDepth 65536 in
theorem w_c5 : (Jvm.Cond.code ({ cls := "java/lang/StringLatin1", name := "equals", desc := "([B[B)Z" } : Jvm.MethodName) jdk_43_method_13_code (3 : Nat) (Option.some Jvm.ClassFile.FieldType.boolean)).before args0 about1 = true := code_word (m := ⟨12, 1⟩) (meth := k12m1) (c := k12c1) (by decide +kernel) rfl rfl rfl (by decide +kernel)
set_option maxRecDepth 65536 in
theorem w_c6 : (Jvm.Cond.code ({ cls := "java/util/Optional", name := "of", desc := "(Ljava/lang/Object;)Ljava/util/Optional;" } : Jvm.MethodName) jdk_32_method_3_code (1 : Nat) (Option.some (Jvm.ClassFile.FieldType.object "java/util/Optional"))).before args0 about1 = true := code_word (m := ⟨10, 2⟩) (meth := k10m2) (c := k10c2) (by decide +kernel) rfl rfl rfl (by decide +kernel)
set_option maxRecDepth 65536 in
theorem w_c7 : (Jvm.Cond.code ({ cls := "java/util/Objects", name := "requireNonNull", desc := "(Ljava/lang/Object;)Ljava/lang/Object;" } : Jvm.MethodName) jdk_31_method_10_code (1 : Nat) (Option.some (Jvm.ClassFile.FieldType.object "java/lang/Object"))).before args0 about1 = true := code_word (m := ⟨13, 1⟩) (meth := k13m1) (c := k13c1) (by decide +kernel) rfl rfl rfl (by decide +kernel)
set_option maxRecDepth 65536 in
theorem w_c8 : (Jvm.Cond.code ({ cls := "java/util/Optional", name := "<init>", desc := "(Ljava/lang/Object;)V" } : Jvm.MethodName) jdk_32_method_2_code (2 : Nat) (Option.none : Option Jvm.ClassFile.FieldType)).before args0 about1 = true := code_word (m := ⟨10, 1⟩) (meth := k10m1) (c := k10c1) (by decide +kernel) rfl rfl rfl (by decide +kernel)
set_option maxRecDepth 65536 in
theorem w_c9 : (Jvm.Cond.code ({ cls := "java/lang/Object", name := "<init>", desc := "()V" } : Jvm.MethodName) object_method_1_code (1 : Nat) (Option.none : Option Jvm.ClassFile.FieldType)).before args0 about1 = true := code_word (m := ⟨0, 0⟩) (meth := k0m0) (c := k0c0) (by decide +kernel) rfl rfl rfl (by decide +kernel)
set_option maxRecDepth 65536 in
theorem w_c10 : (Jvm.Cond.code ({ cls := "java/util/Optional", name := "isPresent", desc := "()Z" } : Jvm.MethodName) jdk_32_method_6_code (1 : Nat) (Option.some Jvm.ClassFile.FieldType.boolean)).before args0 about1 = true := code_word (m := ⟨10, 4⟩) (meth := k10m4) (c := k10c4) (by decide +kernel) rfl rfl rfl (by decide +kernel)
set_option maxRecDepth 65536 in
theorem w_c11 : (Jvm.Cond.code ({ cls := "java/util/Optional", name := "get", desc := "()Ljava/lang/Object;" } : Jvm.MethodName) jdk_32_method_5_code (1 : Nat) (Option.some (Jvm.ClassFile.FieldType.object "java/lang/Object"))).before args0 about1 = true := code_word (m := ⟨10, 3⟩) (meth := k10m3) (c := k10c3) (by decide +kernel) rfl rfl rfl (by decide +kernel)
set_option maxRecDepth 65536 in
theorem w_c12 : (Jvm.Cond.code ({ cls := "java/lang/String", name := "<init>", desc := "([C)V" } : Jvm.MethodName) jdk_42_method_3_code (2 : Nat) (Option.none : Option Jvm.ClassFile.FieldType)).before args0 about1 = true := code_word (m := ⟨7, 1⟩) (meth := k7m1) (c := k7c1) (by decide +kernel) rfl rfl rfl (by decide +kernel)
set_option maxRecDepth 65536 in
theorem w_c13 : (Jvm.Cond.code ({ cls := "java/lang/String", name := "<init>", desc := "([CIILjava/lang/Void;)V" } : Jvm.MethodName) jdk_42_method_149_code (6 : Nat) (Option.none : Option Jvm.ClassFile.FieldType)).before args0 about1 = true := code_word (m := ⟨7, 3⟩) (meth := k7m3) (c := k7c3) (by decide +kernel) rfl rfl rfl (by decide +kernel)
set_option maxRecDepth 65536 in
theorem w_c14 : (Jvm.Cond.code ({ cls := "java/lang/StringUTF16", name := "compress", desc := "([CII)[B" } : Jvm.MethodName) jdk_52_method_16_code (6 : Nat) (Option.some (Jvm.ClassFile.FieldType.array Jvm.ClassFile.FieldType.byte))).before args0 about1 = true := code_word (m := ⟨14, 2⟩) (meth := k14m2) (c := k14c2) (by decide +kernel) rfl rfl rfl (by decide +kernel)
set_option maxRecDepth 65536 in
theorem w_c15 : (Jvm.Cond.code ({ cls := "java/lang/StringUTF16", name := "compress", desc := "([CI[BII)I" } : Jvm.MethodName) jdk_52_method_21_code (7 : Nat) (Option.some Jvm.ClassFile.FieldType.int)).before args0 about1 = true := code_word (m := ⟨14, 3⟩) (meth := k14m3) (c := k14c3) (by decide +kernel) rfl rfl rfl (by decide +kernel)
set_option maxRecDepth 65536 in
theorem w_c16 : (Jvm.Cond.code ({ cls := "java/lang/StringUTF16", name := "coderFromArrayLen", desc := "([BI)B" } : Jvm.MethodName) jdk_52_method_15_code (2 : Nat) (Option.some Jvm.ClassFile.FieldType.byte)).before args0 about1 = true := code_word (m := ⟨14, 1⟩) (meth := k14m1) (c := k14c1) (by decide +kernel) rfl rfl rfl (by decide +kernel)
set_option maxRecDepth 65536 in
theorem w_c17 : (Jvm.Cond.code ({ cls := "com/example/tuplebag/tuplebag/bench/WorkloadNamedPinLaw", name := "drawn", desc := "(II)Ljava/lang/String;" } : Jvm.MethodName) method_3_code (6 : Nat) (Option.some (Jvm.ClassFile.FieldType.object "java/lang/String"))).before args0 about1 = true := code_word (m := ⟨1, 2⟩) (meth := k1m2) (c := k1c2) (by decide +kernel) rfl rfl rfl (by decide +kernel)
def codes1 : List Jvm.Cond := [Jvm.Cond.code x code maxLocals ret, Jvm.Cond.code ({ cls := "java/lang/String", name := "equals", desc := "(Ljava/lang/Object;)Z" } : Jvm.MethodName) jdk_42_method_66_code (3 : Nat) (Option.some Jvm.ClassFile.FieldType.boolean), Jvm.Cond.code ({ cls := "com/example/tuplebag/tuplebag/bench/Workload", name := "named", desc := "(Ljava/lang/String;)Ljava/util/Optional;" } : Jvm.MethodName) prog_9_method_4_code (6 : Nat) (Option.some (Jvm.ClassFile.FieldType.object "java/util/Optional")), Jvm.Cond.code ({ cls := "java/util/Optional", name := "empty", desc := "()Ljava/util/Optional;" } : Jvm.MethodName) jdk_32_method_1_code (1 : Nat) (Option.some (Jvm.ClassFile.FieldType.object "java/util/Optional")), Jvm.Cond.code ({ cls := "com/example/tuplebag/tuplebag/bench/Workload", name := "values", desc := "()[Lcom/example/tuplebag/tuplebag/bench/Workload;" } : Jvm.MethodName) prog_9_method_1_code (0 : Nat) (Option.some (Jvm.ClassFile.FieldType.array (Jvm.ClassFile.FieldType.object "com/example/tuplebag/tuplebag/bench/Workload"))), Jvm.Cond.code ({ cls := "java/lang/StringLatin1", name := "equals", desc := "([B[B)Z" } : Jvm.MethodName) jdk_43_method_13_code (3 : Nat) (Option.some Jvm.ClassFile.FieldType.boolean), Jvm.Cond.code ({ cls := "java/util/Optional", name := "of", desc := "(Ljava/lang/Object;)Ljava/util/Optional;" } : Jvm.MethodName) jdk_32_method_3_code (1 : Nat) (Option.some (Jvm.ClassFile.FieldType.object "java/util/Optional")), Jvm.Cond.code ({ cls := "java/util/Objects", name := "requireNonNull", desc := "(Ljava/lang/Object;)Ljava/lang/Object;" } : Jvm.MethodName) jdk_31_method_10_code (1 : Nat) (Option.some (Jvm.ClassFile.FieldType.object "java/lang/Object")), Jvm.Cond.code ({ cls := "java/util/Optional", name := "<init>", desc := "(Ljava/lang/Object;)V" } : Jvm.MethodName) jdk_32_method_2_code (2 : Nat) (Option.none : Option Jvm.ClassFile.FieldType), Jvm.Cond.code ({ cls := "java/lang/Object", name := "<init>", desc := "()V" } : Jvm.MethodName) object_method_1_code (1 : Nat) (Option.none : Option Jvm.ClassFile.FieldType), Jvm.Cond.code ({ cls := "java/util/Optional", name := "isPresent", desc := "()Z" } : Jvm.MethodName) jdk_32_method_6_code (1 : Nat) (Option.some Jvm.ClassFile.FieldType.boolean), Jvm.Cond.code ({ cls := "java/util/Optional", name := "get", desc := "()Ljava/lang/Object;" } : Jvm.MethodName) jdk_32_method_5_code (1 : Nat) (Option.some (Jvm.ClassFile.FieldType.object "java/lang/Object")), Jvm.Cond.code ({ cls := "java/lang/String", name := "<init>", desc := "([C)V" } : Jvm.MethodName) jdk_42_method_3_code (2 : Nat) (Option.none : Option Jvm.ClassFile.FieldType), Jvm.Cond.code ({ cls := "java/lang/String", name := "<init>", desc := "([CIILjava/lang/Void;)V" } : Jvm.MethodName) jdk_42_method_149_code (6 : Nat) (Option.none : Option Jvm.ClassFile.FieldType), Jvm.Cond.code ({ cls := "java/lang/StringUTF16", name := "compress", desc := "([CII)[B" } : Jvm.MethodName) jdk_52_method_16_code (6 : Nat) (Option.some (Jvm.ClassFile.FieldType.array Jvm.ClassFile.FieldType.byte)), Jvm.Cond.code ({ cls := "java/lang/StringUTF16", name := "compress", desc := "([CI[BII)I" } : Jvm.MethodName) jdk_52_method_21_code (7 : Nat) (Option.some Jvm.ClassFile.FieldType.int), Jvm.Cond.code ({ cls := "java/lang/StringUTF16", name := "coderFromArrayLen", desc := "([BI)B" } : Jvm.MethodName) jdk_52_method_15_code (2 : Nat) (Option.some Jvm.ClassFile.FieldType.byte), Jvm.Cond.code ({ cls := "com/example/tuplebag/tuplebag/bench/WorkloadNamedPinLaw", name := "drawn", desc := "(II)Ljava/lang/String;" } : Jvm.MethodName) method_3_code (6 : Nat) (Option.some (Jvm.ClassFile.FieldType.object "java/lang/String"))]
set_option maxRecDepth 65536 in
theorem codes_eq : words1.filter isCode = codes1 := rfl
theorem w_codes : ∀ c ∈ words1.filter isCode, c.before args0 about1 = true := by
  rw [codes_eq]
  intro c hc
  simp only [codes1, List.mem_cons, List.not_mem_nil, or_false] at hc
  rcases hc with rfl | rfl | rfl | rfl | rfl | rfl | rfl | rfl | rfl | rfl | rfl | rfl | rfl | rfl | rfl | rfl | rfl | rfl
  · exact w_c0
  · exact w_c1
  · exact w_c2
  · exact w_c3
  · exact w_c4
  · exact w_c5
  · exact w_c6
  · exact w_c7
  · exact w_c8
  · exact w_c9
  · exact w_c10
  · exact w_c11
  · exact w_c12
  · exact w_c13
  · exact w_c14
  · exact w_c15
  · exact w_c16
  · exact w_c17
set_option maxRecDepth 65536 in
theorem w_t1 : (words1.take 24).all (fun c => isCode c || c.before args0 about1) = true := by decide +kernel
set_option maxRecDepth 65536 in
theorem w_t2 : ((words1.drop 24).take 24).all (fun c => isCode c || c.before args0 about1) = true := by decide +kernel
set_option maxRecDepth 65536 in
theorem w_t3 : (((words1.drop 24).drop 24).take 24).all (fun c => isCode c || c.before args0 about1) = true := by decide +kernel
set_option maxRecDepth 65536 in
theorem w_t4 : ((((words1.drop 24).drop 24).drop 24).take 24).all (fun c => isCode c || c.before args0 about1) = true := by decide +kernel
set_option maxRecDepth 65536 in
theorem w_t5 : ((((words1.drop 24).drop 24).drop 24).drop 24).all (fun c => isCode c || c.before args0 about1) = true := by decide +kernel
theorem w_tables : (allAtoms (Jvm.Cond.code x code maxLocals ret :: tables_1)).before args0 about1 = true := by
  rw [allAtoms_all]
  show words1.all (fun c => c.before args0 about1) = true
  refine all_split ?_ w_codes
  rw [← List.take_append_drop 24 words1, List.all_append, w_t1, ← List.take_append_drop 24 (words1.drop 24), List.all_append, w_t2, ← List.take_append_drop 24 ((words1.drop 24).drop 24), List.all_append, w_t3, ← List.take_append_drop 24 (((words1.drop 24).drop 24).drop 24), List.all_append, w_t4, w_t5]
  rfl
set_option maxRecDepth 65536 in
theorem w_rest : rest_1_c.before args0 about1 = true := by decide +kernel
set_option maxRecDepth 65536 in
theorem w_case : (Jvm.Cond.and given_1 narrow_1).before args0 about1 = true := by decide +kernel
set_option maxRecDepth 65536 in
theorem w_consts : constsHeld consts_1 about1 := Jvm.Lit.constsHeldB_iff.mp (by decide +kernel)
theorem w_applies : (headSpec (Jvm.Cond.code x code maxLocals ret :: tables_1) room_1).applies x e0.platform about1 = true :=
  (Spec.applies_iff w_frames).mpr ⟨w_running, w_runnable, w_alone, w_named, w_hears, w_ripe, w_room, w_tables⟩
theorem atStart : AtStart classFile x code maxLocals ret World_1 tables_1 room_1 Calls_1 rest_1 Pre_1 launch0 p0 e0 about1 theMethod args0 below0 :=
  ⟨lists_1, trivial, launch0.admits_env _ _ _, launch0.least_env, fairChoices_fair.cas, fairChoices_fair.clock, w_frames, w_args, w_heap, w_applies, ⟨w_consts, trivial⟩, w_rest, w_case⟩
end start1
theorem witness_1 : WitnessClaimed_1 := ⟨start1.p0, start1.e0, start1.about1, start1.theMethod, start1.args0, start1.below0, start1.atStart⟩
end Jvm.Pilot.@@N@@
