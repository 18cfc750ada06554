import JvmDerived
import JvmDerived.Pilot.@@N@@Statement
import JvmDerived.Pilot.@@N@@Code
set_option linter.unusedVariables false
set_option linter.unusedSimpArgs false
namespace Jvm.RoadKit
open Sem ClassFile Op Lib Jvm.Stand Jvm.Free Jvm.LawKit
section New
variable {p : Program} {l : Launch} {e : Env} {R : Room} {s : State} {m : MethodId} {args : Array Value} {below : List Frame} {meth : Method} {c : Code} {T : State} {locs : List Loc} {cells slots : Nat}
theorem retI (X : Stand p l e R s m args below meth c T locs cells slots) (hx : p.tables.exec = Jvm.exec) {pc : Nat} {Ls : Array Slot} {z : Int32} {rest : List Value} (hret : meth.sig.returnType = some .int) (hd : decode c.code pc = .ok (.ireturn, 1)) {fs : List Frame}
    (hl : ∀ (f : JFrame) (acts : List Action), f.method = m → f.locked = none → f.entered = [] → (doReturn e (T.setTop f) acts (some (.int z))).1 = T.setFrames fs) : Steps p.tables e below (T.setTop (mkF m pc Ls (.int z :: rest))) (T.setFrames fs) := by
  have hm' : T.vm.method? m = some meth := X.method'
  have hn : narrow .int (.int z) = .int z := rfl
  show Steps p.tables e below (T.setTop { method := m, pc := pc, locals := Ls, stack := _ :: rest, locked := none }) _
  jvm_step X.here [X.here.top, hx, hd, hm', hret, hn]
  first | (intro acts; rw [hl _ acts rfl rfl rfl]) | rw [hl _ _ rfl rfl rfl]
  exact Steps.refl _
end New
end Jvm.RoadKit
@@BLOCK:NumsL.lean.txt@@
/- laws to paste: Road.backV, Road.lenW, Road.chN, Road.empW, Road.codOf (cut by pick.py; bodies as the Statement names them) -/
namespace Jvm.Pilot.@@N@@
namespace StrChars
open Jvm Sem ClassFile Op Lib Jvm.Stand Jvm.Free.XT Jvm.Free.ALB Jvm.Free.JM Jvm.Free
open Jvm.Lib.Cold (StaticIs)
/-- a char array whose places are chars -/
def Ch (a : Addr) (A : Cell) (U : State) : Prop := Arr .char a A U ∧ Typed .char A
theorem Ch.mv {a : Addr} {A : Cell} {U U' : State} (h : Ch a A U) (hal : U.vm.Alike U'.vm) (hh : U'.heap = U.heap) : Ch a A U' := ⟨h.1.mv hal hh, h.2⟩
theorem Ch.keep {a : Addr} {A : Cell} {U U' : State} (h : Ch a A U) (hal : U.vm.Alike U'.vm) (hk : U'.heap[a]? = some A) : Ch a A U' := ⟨h.1.keep hal hk, h.2⟩
/-- what place i of a char[]'s cell holds -/
def cv (A : Cell) (i : Nat) : Int32 := match A.slots[i]? with | some (.int x) => x | _ => 0
theorem Ch.get {a : Addr} {A : Cell} {U : State} (h : Ch a A U) {i : Nat} (hi : i < A.slots.size) : A.slots[i]? = some (.int (cv A i)) := by
  have e := Array.getElem?_eq_getElem hi
  have f := h.2 i _ e
  unfold cv; rw [e]
  generalize A.slots[i] = v at f
  cases v <;> simp [fits] at f ⊢
/-- the byte that i2b leaves of a char -/
def lo8 (x : Int32) : Int32 := x.toInt8.toInt32
theorem fits_lo8 (y : Int32) : fits .byte (.int (lo8 y)) = true := by
  have h1 := y.toInt8.le_toInt
  have h2 := y.toInt8.toInt_lt
  simp only [lo8, fits, Bool.and_eq_true, decide_eq_true_eq, Int32.le_iff_toInt_le, Int8.toInt_toInt32, show (-128 : Int32).toInt = -128 from by decide, show (127 : Int32).toInt = 127 from by decide]
  omega
/-- A' is A but that each place j of lo .. hi - 1 holds f j -/
def Laid (A A' : Cell) (lo hi : Nat) (f : Nat → Value) : Prop := A'.cls = A.cls ∧ A'.vm = A.vm ∧ A'.slots.size = A.slots.size ∧ ∀ i, A'.slots[i]? = if lo ≤ i ∧ i < hi then some (f i) else A.slots[i]?
theorem Laid.zero (A : Cell) (lo : Nat) (f : Nat → Value) : Laid A A lo (lo + 0) f := ⟨rfl, rfl, rfl, fun i => by rw [if_neg (by omega)]⟩
theorem Laid.step {A Ak : Cell} {lo k : Nat} {f : Nat → Value} {v : Value} (h : Laid A Ak lo k f) (hlo : lo ≤ k) (hk : k < Ak.slots.size) (hv : v = f k) : Laid A (Ak.setSlot k v) lo (k + 1) f := by
  refine ⟨h.1, h.2.1, by simpa [Cell.setSlot] using h.2.2.1, fun i => ?_⟩
  by_cases e : k = i
  · subst e; rw [Cell.slots_setSlot_self v hk, if_pos (by omega), hv]
  · rw [Cell.slots_setSlot_ne v e, h.2.2.2 i]
    by_cases q : lo ≤ i ∧ i < k
    · rw [if_pos q, if_pos (by omega)]
    · rw [if_neg q, if_neg (by omega)]
def U16 : String := "java/lang/StringUTF16"
namespace Cmp5
def yN : MethodName := ⟨"java/lang/StringUTF16", "compress", "([CI[BII)I"⟩
abbrev yB : ByteArray := jdk_52_method_21_code
theorem d0 : decode yB 0 = .ok (.iconst 0, 1) := by decide +kernel
theorem d1 : decode yB 1 = .ok (.istore 5, 2) := by decide +kernel
theorem d3 : decode yB 3 = .ok (.iload 5, 2) := by decide +kernel
theorem d5 : decode yB 5 = .ok (.iload 4, 2) := by decide +kernel
theorem d7 : decode yB 7 = .ok (.if_icmp (.ge) 37, 3) := by decide +kernel
theorem d10 : decode yB 10 = .ok (.aload_n 0, 1) := by decide +kernel
theorem d11 : decode yB 11 = .ok (.iload_n 1, 1) := by decide +kernel
theorem d12 : decode yB 12 = .ok (.caload, 1) := by decide +kernel
theorem d13 : decode yB 13 = .ok (.istore 6, 2) := by decide +kernel
theorem d15 : decode yB 15 = .ok (.iload 6, 2) := by decide +kernel
theorem d17 : decode yB 17 = .ok (.sipush 255, 3) := by decide +kernel
theorem d20 : decode yB 20 = .ok (.if_icmp (.le) 6, 3) := by decide +kernel
theorem d26 : decode yB 26 = .ok (.aload_n 2, 1) := by decide +kernel
theorem d27 : decode yB 27 = .ok (.iload_n 3, 1) := by decide +kernel
theorem d28 : decode yB 28 = .ok (.iload 6, 2) := by decide +kernel
theorem d30 : decode yB 30 = .ok (.i2b, 1) := by decide +kernel
theorem d31 : decode yB 31 = .ok (.bastore, 1) := by decide +kernel
theorem d32 : decode yB 32 = .ok (.iinc 1 1, 3) := by decide +kernel
theorem d35 : decode yB 35 = .ok (.iinc 3 1, 3) := by decide +kernel
theorem d38 : decode yB 38 = .ok (.iinc 5 1, 3) := by decide +kernel
theorem d41 : decode yB 41 = .ok (.goto (-38), 3) := by decide +kernel
theorem d44 : decode yB 44 = .ok (.iload 4, 2) := by decide +kernel
theorem d46 : decode yB 46 = .ok (.ireturn, 1) := by decide +kernel
def site : List Cond := []
def tab : Cond := tabOf yN yB 7 (some .int) site
def P (b : Addr) (A : Cell) (d : Addr) (B : Cell) (o q len : Nat) (args : Array Value) (s : State) : Prop := args = #[.ref b, .int (Int32.ofNat o), .ref d, .int (Int32.ofNat q), .int (Int32.ofNat len)] ∧ Ch b A s ∧ Arr .byte d B s ∧ b ≠ d ∧ o + len ≤ A.slots.size ∧ q + len ≤ B.slots.size ∧ ∀ i, i < len → ¬ 255 < cv A (o + i)
def E (b : Addr) (A : Cell) (d : Addr) (B : Cell) (o q len : Nat) (r : Option Value) (s u : State) : Prop := r = some (.int (Int32.ofNat len)) ∧ ∃ B', Put d B' s u ∧ Laid B B' q (q + len) (fun j => Value.int (lo8 (cv A (o + (j - q)))))
/-- no char of the range above 255: len; the places written hold each char's low byte -/
theorem law (l : Launch) (b : Addr) (A : Cell) (d : Addr) (B : Cell) (o q len : Nat) : Law l yN 5 5 0 0 yB 7 (some .int) site (P b A d B o q len) (E b A d B o q len) (copyLocs d q len) 0 0 := by
  refine Law.of_walk (plainFor_of_name (by decide +kernel)) (by decide +kernel) (by decide +kernel) (by decide) (fun _ _ h => by rw [h.1]; rfl) (fun _ U U' hal hh h => ⟨h.1, h.2.1.mv hal hh, h.2.2.1.mv hal hh, h.2.2.2⟩) (fun r U U' V V' h1 hal h2 h => ⟨h.1, h.2.elim fun B' q => ⟨B', q.1.mv h1 h2, q.2⟩⟩) ?_
  intro p e s m args below meth c s₁ X0 hexec hbytes hml hret hlk hnm hown hh0 W hP
  obtain ⟨rfl, hA, hB, hne, l1, l2, hp⟩ := hP
  have c1 : Steps p.tables e below (s₁.setTop (entryFrame m #[.ref b, .int (Int32.ofNat o), .ref d, .int (Int32.ofNat q), .int (Int32.ofNat len)] 7)) (s₁.setTop (mkF m 0 #[.val (.ref b), .val (.int (Int32.ofNat o)), .val (.ref d), .val (.int (Int32.ofNat q)), .val (.int (Int32.ofNat len)), .unset, .unset] [])) := entry rfl
  have hA0 := hA.1.mv X0.warmed.alike hh0
  have hB0 := hB.mv X0.warmed.alike hh0
  have a31 := hA.1.2.2.2
  have c2 : Steps p.tables e below (s₁.setTop (entryFrame m #[.ref b, .int (Int32.ofNat o), .ref d, .int (Int32.ofNat q), .int (Int32.ofNat len)] 7)) (s₁.setTop (mkF m 3 #[.val (.ref b), .val (.int (Int32.ofNat o)), .val (.ref d), .val (.int (Int32.ofNat q)), .val (.int (Int32.ofNat len)), .val (.int 0), .unset] [])) := c1.trans (by
    refine iconstV X0.here hexec rfl 0 (hb hbytes d0) (by decide) ?_
    refine XS.istore X0.here hexec rfl (hb hbytes d1) rfl rfl ?_
    exact Steps.refl _)
  have loop : ∀ (r i : Nat), i + r = len → ∀ (z : Slot), (z = .unset ∨ ∃ w, z = .val w ∧ w.category = 1) → ∀ (Tl : State) (Bk : Cell), Stand p l e { frames := 0, locals := 0, cells := 0, slots := 0 } s m #[.ref b, .int (Int32.ofNat o), .ref d, .int (Int32.ofNat q), .int (Int32.ofNat len)] below meth c Tl ([] ++ copyLocs d q i) 0 0 → Put d Bk s₁ Tl → Laid B Bk q (q + i) (fun j => Value.int (lo8 (cv A (o + (j - q))))) →
      Steps p.tables e below (s₁.setTop (entryFrame m #[.ref b, .int (Int32.ofNat o), .ref d, .int (Int32.ofNat q), .int (Int32.ofNat len)] 7)) (Tl.setTop (mkF m 3 #[.val (.ref b), .val (.int (Int32.ofNat (o + i))), .val (.ref d), .val (.int (Int32.ofNat (q + i))), .val (.int (Int32.ofNat len)), .val (.int (Int32.ofNat i)), z] [])) → ∃ (T' : State) (B' : Cell) (z' : Slot), Stand p l e { frames := 0, locals := 0, cells := 0, slots := 0 } s m #[.ref b, .int (Int32.ofNat o), .ref d, .int (Int32.ofNat q), .int (Int32.ofNat len)] below meth c T' ([] ++ copyLocs d q len) 0 0 ∧ Put d B' s₁ T' ∧ Laid B B' q (q + len) (fun j => Value.int (lo8 (cv A (o + (j - q))))) ∧
      Steps p.tables e below (s₁.setTop (entryFrame m #[.ref b, .int (Int32.ofNat o), .ref d, .int (Int32.ofNat q), .int (Int32.ofNat len)] 7)) (T'.setTop (mkF m 3 #[.val (.ref b), .val (.int (Int32.ofNat (o + len))), .val (.ref d), .val (.int (Int32.ofNat (q + len))), .val (.int (Int32.ofNat len)), .val (.int (Int32.ofNat len)), z'] [])) := by
    intro r
    induction r with
    | zero =>
      intro i hi z hz Tl Bk Xl pl fl cl
      have hil : i = len := by omega
      rw [hil] at Xl fl cl
      exact ⟨Tl, Bk, z, Xl, pl, fl, cl⟩
    | succ r ih =>
      intro i hi z hz Tl Bk Xl pl fl cl
      have all := X0.warmed.alike.symm.trans Xl.warmed.alike
      have hAl := hA0.keep all (pl.other hne hA0.1)
      have hBk := hB0.like all pl.1 fl.1 fl.2.1 fl.2.2.1
      have hlt : q + i < Bk.slots.size := by rw [fl.2.2.1]; omega
      have c3 : Steps p.tables e below (s₁.setTop (entryFrame m #[.ref b, .int (Int32.ofNat o), .ref d, .int (Int32.ofNat q), .int (Int32.ofNat len)] 7)) (Tl.setTop (mkF m 12 #[.val (.ref b), .val (.int (Int32.ofNat (o + i))), .val (.ref d), .val (.int (Int32.ofNat (q + i))), .val (.int (Int32.ofNat len)), .val (.int (Int32.ofNat i)), z] [.int (Int32.ofNat (o + i)), .ref b])) := cl.trans (by
        refine XS.iload Xl.here hexec rfl (hb hbytes d3) rfl ?_
        refine XS.iload Xl.here hexec rfl (hb hbytes d5) rfl ?_
        refine XS.icmpNo Xl.here hexec rfl (hb hbytes d7) rfl (ii_ge_f (lt32 (by omega) (by omega))) ?_
        refine XS.aloadN Xl.here hexec rfl (hb hbytes d10) rfl rfl ?_
        refine XS.iloadN Xl.here hexec rfl (hb hbytes d11) rfl ?_
        exact Steps.refl _)
      have c4 : Steps p.tables e below (s₁.setTop (entryFrame m #[.ref b, .int (Int32.ofNat o), .ref d, .int (Int32.ofNat q), .int (Int32.ofNat len)] 7)) (Tl.setTop (mkF m 13 #[.val (.ref b), .val (.int (Int32.ofNat (o + i))), .val (.ref d), .val (.int (Int32.ofNat (q + i))), .val (.int (Int32.ofNat len)), .val (.int (Int32.ofNat i)), z] [.int (cv A (o + i))])) := c3.trans (by
        refine Xl.aget hexec hAl rfl (hA.get (i := o + i) (by omega)) rfl rfl (hb hbytes d12) ?_
        exact Steps.refl _)
      have c5 : Steps p.tables e below (s₁.setTop (entryFrame m #[.ref b, .int (Int32.ofNat o), .ref d, .int (Int32.ofNat q), .int (Int32.ofNat len)] 7)) (Tl.setTop (mkF m 15 #[.val (.ref b), .val (.int (Int32.ofNat (o + i))), .val (.ref d), .val (.int (Int32.ofNat (q + i))), .val (.int (Int32.ofNat len)), .val (.int (Int32.ofNat i)), .val (.int (cv A (o + i)))] [])) := c4.trans (by
        refine XS.istoreS Xl.here hexec rfl (hb hbytes d13) rfl rfl hz ?_
        exact Steps.refl _)
      have c6 : Steps p.tables e below (s₁.setTop (entryFrame m #[.ref b, .int (Int32.ofNat o), .ref d, .int (Int32.ofNat q), .int (Int32.ofNat len)] 7)) (Tl.setTop (mkF m 31 #[.val (.ref b), .val (.int (Int32.ofNat (o + i))), .val (.ref d), .val (.int (Int32.ofNat (q + i))), .val (.int (Int32.ofNat len)), .val (.int (Int32.ofNat i)), .val (.int (cv A (o + i)))] [.int (lo8 (cv A (o + i))), .int (Int32.ofNat (q + i)), .ref d])) := c5.trans (by
        refine XS.iload Xl.here hexec rfl (hb hbytes d15) rfl ?_
        refine sipushV Xl.here hexec rfl 255 (hb hbytes d17) (by decide) ?_
        refine XS.icmpYes Xl.here hexec rfl (pc0 := 20) rfl (hb hbytes d20) rfl (ii_le_t (hp i (by omega))) (by decide) rfl ?_
        refine XS.aloadN Xl.here hexec rfl (hb hbytes d26) rfl rfl ?_
        refine XS.iloadN Xl.here hexec rfl (hb hbytes d27) rfl ?_
        refine XS.iload Xl.here hexec rfl (hb hbytes d28) rfl ?_
        refine i2b Xl.here hexec rfl (hb hbytes d30) rfl ?_
        exact Steps.refl _)
      obtain ⟨T7, X7, p7, st7⟩ := Xl.aput hexec hBk rfl hlt rfl (fits_lo8 (cv A (o + i))) (g := (mkF m 31 #[.val (.ref b), .val (.int (Int32.ofNat (o + i))), .val (.ref d), .val (.int (Int32.ofNat (q + i))), .val (.int (Int32.ofNat len)), .val (.int (Int32.ofNat i)), .val (.int (cv A (o + i)))] [.int (lo8 (cv A (o + i))), .int (Int32.ofNat (q + i)), .ref d])) rfl (rest := []) rfl (hb hbytes d31)
      have c8 : Steps p.tables e below (s₁.setTop (entryFrame m #[.ref b, .int (Int32.ofNat o), .ref d, .int (Int32.ofNat q), .int (Int32.ofNat len)] 7)) (T7.setTop (mkF m 32 #[.val (.ref b), .val (.int (Int32.ofNat (o + i))), .val (.ref d), .val (.int (Int32.ofNat (q + i))), .val (.int (Int32.ofNat len)), .val (.int (Int32.ofNat i)), .val (.int (cv A (o + i)))] [])) := c6.trans (st7 _ (Steps.refl _))
      have c9 : Steps p.tables e below (s₁.setTop (entryFrame m #[.ref b, .int (Int32.ofNat o), .ref d, .int (Int32.ofNat q), .int (Int32.ofNat len)] 7)) (T7.setTop (mkF m 3 #[.val (.ref b), .val (.int (Int32.ofNat (o + i) + 1)), .val (.ref d), .val (.int (Int32.ofNat (q + i) + 1)), .val (.int (Int32.ofNat len)), .val (.int (Int32.ofNat i + 1)), .val (.int (cv A (o + i)))] [])) := c8.trans (by
        refine iincV X7.here hexec rfl 1 (hb hbytes d32) (by decide) rfl rfl ?_
        refine iincV X7.here hexec rfl 1 (hb hbytes d35) (by decide) rfl rfl ?_
        refine iincV X7.here hexec rfl 1 (hb hbytes d38) (by decide) rfl rfl ?_
        refine XS.goto X7.here hexec rfl (pc0 := 41) rfl (hb hbytes d41) (by decide) rfl ?_
        exact Steps.refl _)
      have c10 : Steps p.tables e below (s₁.setTop (entryFrame m #[.ref b, .int (Int32.ofNat o), .ref d, .int (Int32.ofNat q), .int (Int32.ofNat len)] 7)) (T7.setTop (mkF m 3 #[.val (.ref b), .val (.int (Int32.ofNat (o + (i + 1)))), .val (.ref d), .val (.int (Int32.ofNat (q + (i + 1)))), .val (.int (Int32.ofNat len)), .val (.int (Int32.ofNat (i + 1))), .val (.int (cv A (o + i)))] [])) := by
        have := c9
        rw [succ32, succ32, succ32] at this
        exact this
      exact ih (i + 1) (by omega) _ (Or.inr ⟨_, rfl, rfl⟩) T7 _ (by rw [copyLocs_step, ← List.append_assoc]; exact X7) (pl.trans p7) (fl.step (by omega) hlt (by simp)) c10
  obtain ⟨T9, B9, z9, X9, p9, f9, g9⟩ := loop len 0 (by omega) .unset (Or.inl rfl) s₁ B (by simpa [copyLocs] using X0) ⟨hB0.1, fun _ _ => rfl, rfl⟩ (Laid.zero _ _ _) c2
  have c11 : Steps p.tables e below (s₁.setTop (entryFrame m #[.ref b, .int (Int32.ofNat o), .ref d, .int (Int32.ofNat q), .int (Int32.ofNat len)] 7)) (T9.setTop (mkF m 46 #[.val (.ref b), .val (.int (Int32.ofNat (o + len))), .val (.ref d), .val (.int (Int32.ofNat (q + len))), .val (.int (Int32.ofNat len)), .val (.int (Int32.ofNat len)), z9] [.int (Int32.ofNat len)])) := g9.trans (by
    refine XS.iload X9.here hexec rfl (hb hbytes d3) rfl ?_
    refine XS.iload X9.here hexec rfl (hb hbytes d5) rfl ?_
    refine XS.icmpYes X9.here hexec rfl (pc0 := 7) rfl (hb hbytes d7) rfl (ii_ge_t (nlt32 (by omega) (Nat.le_refl _))) (by decide) rfl ?_
    refine XS.iload X9.here hexec rfl (hb hbytes d44) rfl ?_
    exact Steps.refl _)
  exact ⟨T9, some (.int (Int32.ofNat len)), _, _, _, X9, by simp, rfl, rfl, (fun h => by cases h), ⟨rfl, B9, p9.from hh0, f9⟩, fun fs hl => c11.trans (X9.ireturnOut hexec hret rfl (Or.inl rfl) (hb hbytes d46) hl)⟩
end Cmp5
namespace Cmp3
def yN : MethodName := ⟨"java/lang/StringUTF16", "compress", "([CII)[B"⟩
abbrev yB : ByteArray := jdk_52_method_16_code
theorem d0 : decode yB 0 = .ok (.iload_n 2, 1) := by decide +kernel
theorem d1 : decode yB 1 = .ok (.newarray .byte, 2) := by decide +kernel
theorem d3 : decode yB 3 = .ok (.astore_n 3, 1) := by decide +kernel
theorem d4 : decode yB 4 = .ok (.aload_n 0, 1) := by decide +kernel
theorem d5 : decode yB 5 = .ok (.iload_n 1, 1) := by decide +kernel
theorem d6 : decode yB 6 = .ok (.aload_n 3, 1) := by decide +kernel
theorem d7 : decode yB 7 = .ok (.iconst 0, 1) := by decide +kernel
theorem d8 : decode yB 8 = .ok (.iload_n 2, 1) := by decide +kernel
theorem d9 : decode yB 9 = .ok (.invokestatic 115, 3) := by decide +kernel
theorem d12 : decode yB 12 = .ok (.istore 4, 2) := by decide +kernel
theorem d14 : decode yB 14 = .ok (.iload 4, 2) := by decide +kernel
theorem d16 : decode yB 16 = .ok (.iload_n 2, 1) := by decide +kernel
theorem d17 : decode yB 17 = .ok (.if_icmp (.eq) 40, 3) := by decide +kernel
theorem d57 : decode yB 57 = .ok (.aload_n 3, 1) := by decide +kernel
theorem d58 : decode yB 58 = .ok (.areturn, 1) := by decide +kernel
def site : List Cond := [.arrayClass .byte, Cmp5.tab] ++ staticW U16 115 Cmp5.yN
def tab : Cond := tabOf yN yB 6 (some (.array .byte)) site
def P (b : Addr) (A : Cell) (o len : Nat) (args : Array Value) (s : State) : Prop := args = #[.ref b, .int (Int32.ofNat o), .int (Int32.ofNat len)] ∧ Ch b A s ∧ o + len ≤ A.slots.size ∧ len ≤ 536870912 ∧ ∀ i, i < len → ¬ 255 < cv A (o + i)
def E (b : Addr) (A : Cell) (o len : Nat) (r : Option Value) (s u : State) : Prop := NewArr .byte "[B" len (fun j => .int (lo8 (cv A (o + j)))) r s u ∧ u.heap.size = s.heap.size + 1
/-- no char of the range above 255: a new byte[] of their low bytes -/
theorem law (l : Launch) (b : Addr) (A : Cell) (o len : Nat) : Law l yN 3 3 1 18 yB 6 (some (.array .byte)) site (P b A o len) (E b A o len) [] 1 len := by
  refine Law.of_walk (plainFor_of_name (by decide +kernel)) (by decide +kernel) (by decide +kernel) (by decide) (fun _ _ h => by rw [h.1]; rfl) (fun _ U U' hal hh h => ⟨h.1, h.2.1.mv hal hh, h.2.2⟩) (fun r U U' V V' h1 hal h2 h => ⟨NewArr.mv r U U' V V' h1 hal h2 h.1, by rw [h1, h2]; exact h.2⟩) ?_
  intro p e s m args below meth c s₁ X0 hexec hbytes hml hret hlk hnm hown hh0 W hP
  obtain ⟨rfl, hA, l1, l2, hp⟩ := hP
  have a31 := hA.1.2.2.2
  have c1 : Steps p.tables e below (s₁.setTop (entryFrame m #[.ref b, .int (Int32.ofNat o), .int (Int32.ofNat len)] 6)) (s₁.setTop (mkF m 0 #[.val (.ref b), .val (.int (Int32.ofNat o)), .val (.int (Int32.ofNat len)), .unset, .unset, .unset] [])) := entry rfl
  have c2 : Steps p.tables e below (s₁.setTop (entryFrame m #[.ref b, .int (Int32.ofNat o), .int (Int32.ofNat len)] 6)) (s₁.setTop (mkF m 1 #[.val (.ref b), .val (.int (Int32.ofNat o)), .val (.int (Int32.ofNat len)), .unset, .unset, .unset] [.int (Int32.ofNat len)])) := c1.trans (by
    refine XS.iloadN X0.here hexec rfl (hb hbytes d0) rfl ?_
    exact Steps.refl _)
  obtain ⟨T3, B3, X3, ba3, bs3, bv3, bh3, bf3, st3⟩ := X0.anew hexec (atype := .byte) (wk W (.arrayClass .byte)) rfl (by show len * 1 ≤ _; omega) (by omega) (g := (mkF m 1 #[.val (.ref b), .val (.int (Int32.ofNat o)), .val (.int (Int32.ofNat len)), .unset, .unset, .unset] [.int (Int32.ofNat len)])) rfl (hb hbytes d1) (rest := []) rfl (Nat.le_refl _) (by show 0 + len ≤ len; omega)
  rw [hh0] at ba3 st3
  have kp3 : XT.Kept s T3 := (XT.Kept.of_eq hh0).push bh3
  have hA3 := hA.keep X3.warmed.alike (kp3 _ _ hA.1.1)
  have hne : b ≠ s.heap.size := hA.1.ne
  have c4 : Steps p.tables e below (s₁.setTop (entryFrame m #[.ref b, .int (Int32.ofNat o), .int (Int32.ofNat len)] 6)) (T3.setTop (mkF m 3 #[.val (.ref b), .val (.int (Int32.ofNat o)), .val (.int (Int32.ofNat len)), .unset, .unset, .unset] [.ref s.heap.size])) := c2.trans (st3 _ (Steps.refl _))
  have c5 : Steps p.tables e below (s₁.setTop (entryFrame m #[.ref b, .int (Int32.ofNat o), .int (Int32.ofNat len)] 6)) (T3.setTop (mkF m 9 #[.val (.ref b), .val (.int (Int32.ofNat o)), .val (.int (Int32.ofNat len)), .val (.ref s.heap.size), .unset, .unset] [.int (Int32.ofNat len), .int 0, .ref s.heap.size, .int (Int32.ofNat o), .ref b])) := c4.trans (by
    refine XS.astoreN X3.here hexec rfl (hb hbytes d3) rfl rfl rfl ?_
    refine XS.aloadN X3.here hexec rfl (hb hbytes d4) rfl rfl ?_
    refine XS.iloadN X3.here hexec rfl (hb hbytes d5) rfl ?_
    refine XS.aloadN X3.here hexec rfl (hb hbytes d6) rfl rfl ?_
    refine iconstV X3.here hexec rfl 0 (hb hbytes d7) (by decide) ?_
    refine XS.iloadN X3.here hexec rfl (hb hbytes d8) rfl ?_
    exact Steps.refl _)
  obtain ⟨v6, T6, X6, E6, g6⟩ := X3.callS hexec (Cmp5.law l b A s.heap.size B3 o 0 len) hown (wks W (staticW U16 115 Cmp5.yN)) (wk W Cmp5.tab) (W := 0) (Nat.le_of_ble_eq_true rfl) (Nat.le_of_ble_eq_true rfl) (Nat.le_refl _) (by show 0 + len + 0 ≤ len; omega) (g := (mkF m 9 #[.val (.ref b), .val (.int (Int32.ofNat o)), .val (.int (Int32.ofNat len)), .val (.ref s.heap.size), .unset, .unset] [.int (Int32.ofNat len), .int (Int32.ofNat 0), .ref s.heap.size, .int (Int32.ofNat o), .ref b])) rfl (by rw [hml]; rfl) c5 (argsL := [.ref b, .int (Int32.ofNat o), .ref s.heap.size, .int (Int32.ofNat 0), .int (Int32.ofNat len)]) (rest := []) rfl rfl (by show 2 * 0 + 0 ≤ _; decide) (hb hbytes d9) (⟨rfl, hA3, ba3, hne, l1, by rw [bs3]; simp, hp⟩)
  obtain ⟨rfl, B6, p6, f6⟩ := E6
  have c7 : Steps p.tables e below (s₁.setTop (entryFrame m #[.ref b, .int (Int32.ofNat o), .int (Int32.ofNat len)] 6)) (T6.setTop (mkF m 12 #[.val (.ref b), .val (.int (Int32.ofNat o)), .val (.int (Int32.ofNat len)), .val (.ref s.heap.size), .unset, .unset] [.int (Int32.ofNat len)])) := g6
  have c8 : Steps p.tables e below (s₁.setTop (entryFrame m #[.ref b, .int (Int32.ofNat o), .int (Int32.ofNat len)] 6)) (T6.setTop (mkF m 58 #[.val (.ref b), .val (.int (Int32.ofNat o)), .val (.int (Int32.ofNat len)), .val (.ref s.heap.size), .val (.int (Int32.ofNat len)), .unset] [.ref s.heap.size])) := c7.trans (by
    refine XS.istore X6.here hexec rfl (hb hbytes d12) rfl rfl ?_
    refine XS.iload X6.here hexec rfl (hb hbytes d14) rfl ?_
    refine XS.iloadN X6.here hexec rfl (hb hbytes d16) rfl ?_
    refine XS.icmpYes X6.here hexec rfl (pc0 := 17) rfl (hb hbytes d17) rfl (ii_eq_t rfl) (by decide) rfl ?_
    refine XS.aloadN X6.here hexec rfl (hb hbytes d57) rfl rfl ?_
    exact Steps.refl _)
  have X8 := X6.wide (L' := []) (cells' := 1) (slots' := len) (fun x hx hlt => by
    simp only [List.nil_append, copyLocs, List.mem_map, List.mem_range] at hx
    obtain ⟨i, -, rfl⟩ := hx
    exact absurd hlt (Nat.lt_irrefl _)) (Nat.le_refl _) (by omega)
  exact ⟨T6, some (.ref s.heap.size), _, _, _, X8, rfl, rfl, rfl, (fun h => by cases h), ⟨⟨rfl, B6, ba3.like (X3.warmed.alike.symm.trans X6.warmed.alike) p6.1 f6.1 f6.2.1 f6.2.2.1, f6.2.1.trans bv3, by rw [X6.warmed.alike.findClass, f6.1]; exact bf3, by rw [f6.2.2.1, bs3]; simp, fun j hj => by rw [f6.2.2.2 j, if_pos (by omega)]; rfl, kp3.put p6 (Nat.le_refl _)⟩, by rw [p6.2.2, bh3, hh0]; simp⟩, fun fs hl => c8.trans (X8.areturnOut hexec rfl hret rfl (hb hbytes d58) hl)⟩
end Cmp3
namespace CodL
def yN : MethodName := ⟨"java/lang/StringUTF16", "coderFromArrayLen", "([BI)B"⟩
abbrev yB : ByteArray := jdk_52_method_15_code
theorem d0 : decode yB 0 = .ok (.iload_n 1, 1) := by decide +kernel
theorem d1 : decode yB 1 = .ok (.aload_n 0, 1) := by decide +kernel
theorem d2 : decode yB 2 = .ok (.arraylength, 1) := by decide +kernel
theorem d3 : decode yB 3 = .ok (.isub, 1) := by decide +kernel
theorem d4 : decode yB 4 = .ok (.bipush 31, 2) := by decide +kernel
theorem d6 : decode yB 6 = .ok (.iushr, 1) := by decide +kernel
theorem d7 : decode yB 7 = .ok (.i2b, 1) := by decide +kernel
theorem d8 : decode yB 8 = .ok (.ireturn, 1) := by decide +kernel
def site : List Cond := []
def tab : Cond := tabOf yN yB 2 (some .byte) site
def P (d : Addr) (B : Cell) (args : Array Value) (s : State) : Prop := args = #[.ref d, .int (Int32.ofNat B.slots.size)] ∧ Arr .byte d B s
def E (r : Option Value) (s u : State) : Prop := XT.PureE (some (.int 0)) r s u
/-- an array as long as the number of chars: LATIN1 -/
theorem law (l : Launch) (d : Addr) (B : Cell) : Law l yN 2 2 0 0 yB 2 (some .byte) site (P d B) E [] 0 0 := by
  refine Law.of_walk (plainFor_of_name (by decide +kernel)) (by decide +kernel) (by decide +kernel) (by decide) (fun _ _ h => by rw [h.1]; rfl) (fun _ U U' hal hh h => ⟨h.1, h.2.mv hal hh⟩) (fun r U U' V V' h1 hal h2 h => XT.PureE.mv r U U' V V' h1 hal h2 h) ?_
  intro p e s m args below meth c s₁ X0 hexec hbytes hml hret hlk hnm hown hh0 W hP
  obtain ⟨rfl, hB⟩ := hP
  have hB0 := hB.mv X0.warmed.alike hh0
  have c1 : Steps p.tables e below (s₁.setTop (entryFrame m #[.ref d, .int (Int32.ofNat B.slots.size)] 2)) (s₁.setTop (mkF m 0 #[.val (.ref d), .val (.int (Int32.ofNat B.slots.size))] [])) := entry rfl
  have c2 : Steps p.tables e below (s₁.setTop (entryFrame m #[.ref d, .int (Int32.ofNat B.slots.size)] 2)) (s₁.setTop (mkF m 2 #[.val (.ref d), .val (.int (Int32.ofNat B.slots.size))] [.ref d, .int (Int32.ofNat B.slots.size)])) := c1.trans (by
    refine XS.iloadN X0.here hexec rfl (hb hbytes d0) rfl ?_
    refine XS.aloadN X0.here hexec rfl (hb hbytes d1) rfl rfl ?_
    exact Steps.refl _)
  have c3 : Steps p.tables e below (s₁.setTop (entryFrame m #[.ref d, .int (Int32.ofNat B.slots.size)] 2)) (s₁.setTop (mkF m 8 #[.val (.ref d), .val (.int (Int32.ofNat B.slots.size))] [.int (lo8 (ushr (Int32.ofNat B.slots.size - Int32.ofNat B.slots.size) 31))])) := c2.trans (by
    refine X0.alen hexec hB0 rfl rfl (hb hbytes d2) ?_
    refine XS.isub X0.here hexec rfl (hb hbytes d3) rfl ?_
    refine bipushV X0.here hexec rfl 31 (hb hbytes d4) (by decide) ?_
    refine iushr X0.here hexec rfl (hb hbytes d6) rfl ?_
    refine i2b X0.here hexec rfl (hb hbytes d7) rfl ?_
    exact Steps.refl _)
  have e0 : lo8 (ushr (Int32.ofNat B.slots.size - Int32.ofNat B.slots.size) 31) = 0 := by rw [Int32.sub_self]; decide
  rw [e0] at c3
  exact ⟨s₁, some (.int 0), _, _, _, X0, rfl, rfl, rfl, (fun h => by cases h), ⟨rfl, hh0⟩, fun fs hl => c3.trans (X0.ireturnOut hexec hret rfl (Or.inr (Or.inr (Or.inl rfl))) (hb hbytes d8) hl)⟩
end CodL
/-- the String at a is Latin-1 over a new byte[] (the heap's one new cell): the low bytes of the len chars of A from o on; every cell but a is kept -/
def Got (a : Addr) (D : Cell) (fV fC : Field) (A : Cell) (o len : Nat) (r : Option Value) (s u : State) : Prop := r = none ∧ ∃ D' V : Cell, Blank "java/lang/String" a D' u ∧ Same D D' [fV.slot, fC.slot] ∧ D'.slots[fV.slot]? = some (.ref s.heap.size) ∧ D'.slots[fC.slot]? = some (.int 0) ∧ Arr .byte s.heap.size V u ∧ V.vm = .none ∧ u.vm.findClass "[B" = some V.cls ∧ V.slots.size = len ∧ (∀ j, j < len → V.slots[j]? = some (.int (lo8 (cv A (o + j))))) ∧ (∀ (y : Addr) (c : Cell), y ≠ a → s.heap[y]? = some c → u.heap[y]? = some c) ∧ u.heap.size = s.heap.size + 1
theorem Got.mv {a : Addr} {D A : Cell} {fV fC : Field} {o len : Nat} : ∀ r (U U' V V' : State), U'.heap = U.heap → V.vm.Alike V'.vm → V'.heap = V.heap → Got a D fV fC A o len r U V → Got a D fV fC A o len r U' V' :=
  fun r U U' V V' h1 hal h2 ⟨e0, D', X, a1, a2, a3, a4, a5, a6, a7, a8, a9, a10, a11⟩ => ⟨e0, D', X, a1.mv hal h2, a2, by rw [h1]; exact a3, a4, by rw [h1]; exact a5.mv hal h2, a6, by rw [hal.findClass]; exact a7, a8, a9, by rw [h1, h2]; exact a10, by rw [h1, h2]; exact a11⟩
namespace New4
def yN : MethodName := ⟨"java/lang/String", "<init>", "([CIILjava/lang/Void;)V"⟩
abbrev yB : ByteArray := jdk_42_method_149_code
theorem d0 : decode yB 0 = .ok (.aload_n 0, 1) := by decide +kernel
theorem d1 : decode yB 1 = .ok (.invokespecial 1, 3) := by decide +kernel
theorem d4 : decode yB 4 = .ok (.iload_n 3, 1) := by decide +kernel
theorem d5 : decode yB 5 = .ok (.ifCond (.ne) 22, 3) := by decide +kernel
theorem d27 : decode yB 27 = .ok (.getstatic 38, 3) := by decide +kernel
theorem d30 : decode yB 30 = .ok (.ifCond (.eq) 28, 3) := by decide +kernel
theorem d33 : decode yB 33 = .ok (.aload_n 1, 1) := by decide +kernel
theorem d34 : decode yB 34 = .ok (.iload_n 2, 1) := by decide +kernel
theorem d35 : decode yB 35 = .ok (.iload_n 3, 1) := by decide +kernel
theorem d36 : decode yB 36 = .ok (.invokestatic 177, 3) := by decide +kernel
theorem d39 : decode yB 39 = .ok (.astore 5, 2) := by decide +kernel
theorem d41 : decode yB 41 = .ok (.aload_n 0, 1) := by decide +kernel
theorem d42 : decode yB 42 = .ok (.aload 5, 2) := by decide +kernel
theorem d44 : decode yB 44 = .ok (.iload_n 3, 1) := by decide +kernel
theorem d45 : decode yB 45 = .ok (.invokestatic 47, 3) := by decide +kernel
theorem d48 : decode yB 48 = .ok (.putfield 15, 3) := by decide +kernel
theorem d51 : decode yB 51 = .ok (.aload_n 0, 1) := by decide +kernel
theorem d52 : decode yB 52 = .ok (.aload 5, 2) := by decide +kernel
theorem d54 : decode yB 54 = .ok (.putfield 9, 3) := by decide +kernel
theorem d57 : decode yB 57 = .ok (.return_, 1) := by decide +kernel
def site : List Cond := [.fieldLink "java/lang/String" 38 "java/lang/String" "COMPACT_STRINGS" "Z", Cmp3.tab, CodL.tab, .laysFinal "java/lang/String" "java/lang/String" "value" "[B", .fieldLink "java/lang/String" 9 "java/lang/String" "value" "[B", .laysFinal "java/lang/String" "java/lang/String" "coder" "B", .fieldLink "java/lang/String" 15 "java/lang/String" "coder" "B"] ++ objW "java/lang/String" 1 ++ staticW "java/lang/String" 177 Cmp3.yN ++ staticW "java/lang/String" 47 CodL.yN
def tab : Cond := tabOf yN yB 6 none site
def P (a : Addr) (D : Cell) (fV fC : Field) (b : Addr) (A : Cell) (z : Int32) (o len : Nat) (args : Array Value) (s : State) : Prop := args = #[.ref a, .ref b, .int (Int32.ofNat o), .int (Int32.ofNat len), .null] ∧ Blank "java/lang/String" a D s ∧ Found "java/lang/String" "value" "[B" fV s ∧ Found "java/lang/String" "coder" "B" fC s ∧ Ch b A s ∧ StaticIs s "java/lang/String" "COMPACT_STRINGS" "Z" (.int z) ∧ ¬ z = 0 ∧ 0 < len ∧ o + len ≤ A.slots.size ∧ len ≤ 536870912 ∧ ∀ i, i < len → ¬ 255 < cv A (o + i)
def E (a : Addr) (D : Cell) (fV fC : Field) (A : Cell) (o len : Nat) (r : Option Value) (s u : State) : Prop := Got a D fV fC A o len r s u
/-- len > 0, no char of the range above 255: a Latin-1 String of their low bytes -/
theorem law (l : Launch) (a : Addr) (D : Cell) (fV fC : Field) (b : Addr) (A : Cell) (z : Int32) (o len : Nat) : Law l yN 5 4 2 35 yB 6 none site (P a D fV fC b A z o len) (E a D fV fC A o len) [⟨a, fC.slot⟩, ⟨a, fV.slot⟩] 1 len := by
  refine Law.of_walk (plainFor_of_name (by decide +kernel)) (by decide +kernel) (by decide +kernel) (by decide) (fun _ _ h => by rw [h.1]; rfl) (fun _ U U' hal hh h => ⟨h.1, h.2.1.mv hal hh, h.2.2.1.al hal, h.2.2.2.1.al hal, h.2.2.2.2.1.mv hal hh, h.2.2.2.2.2.1.there hal hh, h.2.2.2.2.2.2⟩) (fun r U U' V V' h1 hal h2 h => Got.mv r U U' V V' h1 hal h2 h) ?_
  intro p e s m args below meth c s₁ X0 hexec hbytes hml hret hlk hnm hown hh0 W hP
  obtain ⟨rfl, hB, f1, f2, hA, s1, hz, l0, l1, l2, hp⟩ := hP
  have a31 := hA.1.2.2.2
  have c1 : Steps p.tables e below (s₁.setTop (entryFrame m #[.ref a, .ref b, .int (Int32.ofNat o), .int (Int32.ofNat len), .null] 6)) (s₁.setTop (mkF m 0 #[.val (.ref a), .val (.ref b), .val (.int (Int32.ofNat o)), .val (.int (Int32.ofNat len)), .val .null, .unset] [])) := entry rfl
  have c2 : Steps p.tables e below (s₁.setTop (entryFrame m #[.ref a, .ref b, .int (Int32.ofNat o), .int (Int32.ofNat len), .null] 6)) (s₁.setTop (mkF m 1 #[.val (.ref a), .val (.ref b), .val (.int (Int32.ofNat o)), .val (.int (Int32.ofNat len)), .val .null, .unset] [.ref a])) := c1.trans (by
    refine XS.aloadN X0.here hexec rfl (hb hbytes d0) rfl rfl ?_
    exact Steps.refl _)
  obtain ⟨T3, X3, q3, st3⟩ := X0.oinit hexec hown (wks W (objW "java/lang/String" 1)) (g := (mkF m 1 #[.val (.ref a), .val (.ref b), .val (.int (Int32.ofNat o)), .val (.int (Int32.ofNat len)), .val .null, .unset] [.ref a])) rfl (by rw [hml]; rfl) (rest := []) rfl (hb hbytes d1) (W := 0) (by show 2 * 0 + 0 ≤ _; decide) (Nat.le_of_ble_eq_true rfl) (Nat.le_of_ble_eq_true rfl)
  have hh3 := q3.trans hh0
  have c4 : Steps p.tables e below (s₁.setTop (entryFrame m #[.ref a, .ref b, .int (Int32.ofNat o), .int (Int32.ofNat len), .null] 6)) (T3.setTop (mkF m 27 #[.val (.ref a), .val (.ref b), .val (.int (Int32.ofNat o)), .val (.int (Int32.ofNat len)), .val .null, .unset] [])) := (c2.trans (st3 _ (Steps.refl _))).trans (by
    refine XS.iloadN X3.here hexec rfl (hb hbytes d4) rfl ?_
    refine XS.ifYes X3.here hexec rfl (pc0 := 5) rfl (hb hbytes d5) rfl (i0_ne_t (nz32 (by omega) l0)) (by decide) rfl ?_
    exact Steps.refl _)
  obtain ⟨T5, X5, q5, st5⟩ := X3.sget hexec hown (wk W (.fieldLink "java/lang/String" 38 "java/lang/String" "COMPACT_STRINGS" "Z")) s1 (fun _ _ h => by rw [hh3]; exact h) (g := (mkF m 27 #[.val (.ref a), .val (.ref b), .val (.int (Int32.ofNat o)), .val (.int (Int32.ofNat len)), .val .null, .unset] [])) rfl (hb hbytes d27)
  have hh5 := q5.trans hh3
  have c6 : Steps p.tables e below (s₁.setTop (entryFrame m #[.ref a, .ref b, .int (Int32.ofNat o), .int (Int32.ofNat len), .null] 6)) (T5.setTop (mkF m 30 #[.val (.ref a), .val (.ref b), .val (.int (Int32.ofNat o)), .val (.int (Int32.ofNat len)), .val .null, .unset] [.int z])) := c4.trans (st5 _ (Steps.refl _))
  have c7 : Steps p.tables e below (s₁.setTop (entryFrame m #[.ref a, .ref b, .int (Int32.ofNat o), .int (Int32.ofNat len), .null] 6)) (T5.setTop (mkF m 36 #[.val (.ref a), .val (.ref b), .val (.int (Int32.ofNat o)), .val (.int (Int32.ofNat len)), .val .null, .unset] [.int (Int32.ofNat len), .int (Int32.ofNat o), .ref b])) := c6.trans (by
    refine XS.ifNo X5.here hexec rfl (hb hbytes d30) rfl (i0_eq_f hz) ?_
    refine XS.aloadN X5.here hexec rfl (hb hbytes d33) rfl rfl ?_
    refine XS.iloadN X5.here hexec rfl (hb hbytes d34) rfl ?_
    refine XS.iloadN X5.here hexec rfl (hb hbytes d35) rfl ?_
    exact Steps.refl _)
  obtain ⟨v8, T8, X8, E8, g8⟩ := X5.callS hexec (Cmp3.law l b A o len) hown (wks W (staticW "java/lang/String" 177 Cmp3.yN)) (wk W Cmp3.tab) (W := 0) (Nat.le_of_ble_eq_true rfl) (Nat.le_of_ble_eq_true rfl) (Nat.le_refl _) (by show 0 + len ≤ len; omega) (g := (mkF m 36 #[.val (.ref a), .val (.ref b), .val (.int (Int32.ofNat o)), .val (.int (Int32.ofNat len)), .val .null, .unset] [.int (Int32.ofNat len), .int (Int32.ofNat o), .ref b])) rfl (by rw [hml]; rfl) c7 (argsL := [.ref b, .int (Int32.ofNat o), .int (Int32.ofNat len)]) (rest := []) rfl rfl (by show 2 * 0 + 0 ≤ _; decide) (hb hbytes d36) (⟨rfl, hA.mv X5.warmed.alike hh5, l1, l2, hp⟩)
  obtain ⟨e8, z8⟩ := E8
  obtain ⟨rfl, N, n1, n2, n3, n4, n5, n6⟩ := NewArr.mv _ T5 s _ _ hh5.symm (Vm.Alike.refl _) rfl e8
  rw [hh5] at z8
  have hB1 := hB.keep X8.warmed.alike (n6 _ _ hB.1)
  have hne : s.heap.size ≠ a := (Nat.ne_of_lt (Array.getElem?_eq_some_iff.mp hB.1).1).symm
  have c9 : Steps p.tables e below (s₁.setTop (entryFrame m #[.ref a, .ref b, .int (Int32.ofNat o), .int (Int32.ofNat len), .null] 6)) (T8.setTop (mkF m 39 #[.val (.ref a), .val (.ref b), .val (.int (Int32.ofNat o)), .val (.int (Int32.ofNat len)), .val .null, .unset] [.ref s.heap.size])) := g8
  have c10 : Steps p.tables e below (s₁.setTop (entryFrame m #[.ref a, .ref b, .int (Int32.ofNat o), .int (Int32.ofNat len), .null] 6)) (T8.setTop (mkF m 45 #[.val (.ref a), .val (.ref b), .val (.int (Int32.ofNat o)), .val (.int (Int32.ofNat len)), .val .null, .val (.ref s.heap.size)] [.int (Int32.ofNat N.slots.size), .ref s.heap.size, .ref a])) := by
    have hc : Steps p.tables e below (s₁.setTop (entryFrame m #[.ref a, .ref b, .int (Int32.ofNat o), .int (Int32.ofNat len), .null] 6)) (T8.setTop (mkF m 45 #[.val (.ref a), .val (.ref b), .val (.int (Int32.ofNat o)), .val (.int (Int32.ofNat len)), .val .null, .val (.ref s.heap.size)] [.int (Int32.ofNat len), .ref s.heap.size, .ref a])) := c9.trans (by
      refine XS.astore X8.here hexec rfl (hb hbytes d39) rfl rfl rfl ?_
      refine XS.aloadN X8.here hexec rfl (hb hbytes d41) rfl rfl ?_
      refine XS.aload X8.here hexec rfl (hb hbytes d42) rfl rfl ?_
      refine XS.iloadN X8.here hexec rfl (hb hbytes d44) rfl ?_
      exact Steps.refl _)
    rw [n4]; exact hc
  obtain ⟨v11, T11, X11, E11, g11⟩ := X8.callS hexec (CodL.law l s.heap.size N) hown (wks W (staticW "java/lang/String" 47 CodL.yN)) (wk W CodL.tab) (W := 1) (Nat.le_of_ble_eq_true rfl) (Nat.le_of_ble_eq_true rfl) (Nat.le_refl _) (by show 0 + len + 0 ≤ len; omega) (g := (mkF m 45 #[.val (.ref a), .val (.ref b), .val (.int (Int32.ofNat o)), .val (.int (Int32.ofNat len)), .val .null, .val (.ref s.heap.size)] [.int (Int32.ofNat N.slots.size), .ref s.heap.size, .ref a])) rfl (by rw [hml]; rfl) c10 (argsL := [.ref s.heap.size, .int (Int32.ofNat N.slots.size)]) (rest := [.ref a]) rfl rfl (by show 2 * 0 + (1 + 0) ≤ _; decide) (hb hbytes d45) (⟨rfl, n1⟩)
  obtain ⟨rfl, q11⟩ := E11
  have hB11 := hB1.mv (X8.warmed.alike.symm.trans X11.warmed.alike) q11
  have c12 : Steps p.tables e below (s₁.setTop (entryFrame m #[.ref a, .ref b, .int (Int32.ofNat o), .int (Int32.ofNat len), .null] 6)) (T11.setTop (mkF m 48 #[.val (.ref a), .val (.ref b), .val (.int (Int32.ofNat o)), .val (.int (Int32.ofNat len)), .val .null, .val (.ref s.heap.size)] [.int 0, .ref a])) := g11
  obtain ⟨T13, X13, p13, bl13, sl13, st13⟩ := X11.finit hexec hown (wk W (.fieldLink "java/lang/String" 15 "java/lang/String" "coder" "B")) (Or.inr ⟨_, (wk W (.laysFinal "java/lang/String" "java/lang/String" "coder" "B"))⟩) (Or.inl ⟨rfl, hnm⟩) f2 (Or.inl rfl) hB11 (t := .byte) (by decide +kernel) rfl (g := (mkF m 48 #[.val (.ref a), .val (.ref b), .val (.int (Int32.ofNat o)), .val (.int (Int32.ofNat len)), .val .null, .val (.ref s.heap.size)] [.int 0, .ref a])) rfl (rest := []) rfl (hb hbytes d48)
  have c14 : Steps p.tables e below (s₁.setTop (entryFrame m #[.ref a, .ref b, .int (Int32.ofNat o), .int (Int32.ofNat len), .null] 6)) (T13.setTop (mkF m 54 #[.val (.ref a), .val (.ref b), .val (.int (Int32.ofNat o)), .val (.int (Int32.ofNat len)), .val .null, .val (.ref s.heap.size)] [.ref s.heap.size, .ref a])) := (c12.trans (st13 _ (Steps.refl _))).trans (by
    refine XS.aloadN X13.here hexec rfl (hb hbytes d51) rfl rfl ?_
    refine XS.aload X13.here hexec rfl (hb hbytes d52) rfl rfl ?_
    exact Steps.refl _)
  obtain ⟨T15, X15, p15, bl15, sl15, st15⟩ := X13.finit hexec hown (wk W (.fieldLink "java/lang/String" 9 "java/lang/String" "value" "[B")) (Or.inr ⟨_, (wk W (.laysFinal "java/lang/String" "java/lang/String" "value" "[B"))⟩) (Or.inl ⟨rfl, hnm⟩) f1 (Or.inl rfl) bl13 (t := (.array .byte)) (by decide +kernel) rfl (g := (mkF m 54 #[.val (.ref a), .val (.ref b), .val (.int (Int32.ofNat o)), .val (.int (Int32.ofNat len)), .val .null, .val (.ref s.heap.size)] [.ref s.heap.size, .ref a])) rfl (rest := []) rfl (hb hbytes d54)
  have c16 : Steps p.tables e below (s₁.setTop (entryFrame m #[.ref a, .ref b, .int (Int32.ofNat o), .int (Int32.ofNat len), .null] 6)) (T15.setTop (mkF m 57 #[.val (.ref a), .val (.ref b), .val (.int (Int32.ofNat o)), .val (.int (Int32.ofNat len)), .val .null, .val (.ref s.heap.size)] [])) := c14.trans (st15 _ (Steps.refl _))
  have ap := apart (Or.inr ⟨_, (wk W (.laysFinal "java/lang/String" "java/lang/String" "value" "[B"))⟩) (Or.inr ⟨_, (wk W (.laysFinal "java/lang/String" "java/lang/String" "coder" "B"))⟩) f1 f2 (t₁ := .array .byte) (t₂ := .byte) (by decide +kernel) (by decide +kernel) (by decide)
  have al := X8.warmed.alike.symm.trans X15.warmed.alike
  have n7 : T11.heap[s.heap.size]? = some N := by rw [q11]; exact n1.1
  exact ⟨T15, none, _, _, _, X15, by simp, rfl, by omega, (fun _ => rfl), ⟨rfl, _, N, bl15, ((Same.refl D _).set _ (by simp)).set _ (by simp), sl15, (Cell.slots_setSlot_ne _ ap).trans sl13, n1.keep al (p15.other hne (p13.other hne n7)), n2, by rw [al.findClass]; exact n3, n4, n5, fun y c h1 h2 => p15.other h1 (p13.other h1 (by rw [q11]; exact n6 y c h2)), by rw [p15.2.2, p13.2.2, q11]; exact z8⟩, fun fs hl => c16.trans (X15.returnOut hexec hret (hb hbytes d57) hl)⟩
end New4
namespace New1
def yN : MethodName := ⟨"java/lang/String", "<init>", "([C)V"⟩
abbrev yB : ByteArray := jdk_42_method_3_code
theorem d0 : decode yB 0 = .ok (.aload_n 0, 1) := by decide +kernel
theorem d1 : decode yB 1 = .ok (.aload_n 1, 1) := by decide +kernel
theorem d2 : decode yB 2 = .ok (.iconst 0, 1) := by decide +kernel
theorem d3 : decode yB 3 = .ok (.aload_n 1, 1) := by decide +kernel
theorem d4 : decode yB 4 = .ok (.arraylength, 1) := by decide +kernel
theorem d5 : decode yB 5 = .ok (.aconst_null, 1) := by decide +kernel
theorem d6 : decode yB 6 = .ok (.invokespecial 27, 3) := by decide +kernel
theorem d9 : decode yB 9 = .ok (.return_, 1) := by decide +kernel
def site : List Cond := [New4.tab] ++ initW "java/lang/String" 27 New4.yN
def tab : Cond := tabOf yN yB 2 none site
def P (a : Addr) (D : Cell) (fV fC : Field) (b : Addr) (A : Cell) (z : Int32) (args : Array Value) (s : State) : Prop := args = #[.ref a, .ref b] ∧ Blank "java/lang/String" a D s ∧ Found "java/lang/String" "value" "[B" fV s ∧ Found "java/lang/String" "coder" "B" fC s ∧ Ch b A s ∧ StaticIs s "java/lang/String" "COMPACT_STRINGS" "Z" (.int z) ∧ ¬ z = 0 ∧ 0 < A.slots.size ∧ A.slots.size ≤ 536870912 ∧ ∀ i, i < A.slots.size → ¬ 255 < cv A i
def E (a : Addr) (D : Cell) (fV fC : Field) (A : Cell) (r : Option Value) (s u : State) : Prop := Got a D fV fC A 0 A.slots.size r s u
/-- new String(chars), not empty, no char above 255: a Latin-1 String of their low bytes -/
theorem law (l : Launch) (a : Addr) (D : Cell) (fV fC : Field) (b : Addr) (A : Cell) (z : Int32) : Law l yN 2 1 3 52 yB 2 none site (P a D fV fC b A z) (E a D fV fC A) [⟨a, fC.slot⟩, ⟨a, fV.slot⟩] 1 A.slots.size := by
  refine Law.of_walk (plainFor_of_name (by decide +kernel)) (by decide +kernel) (by decide +kernel) (by decide) (fun _ _ h => by rw [h.1]; rfl) (fun _ U U' hal hh h => ⟨h.1, h.2.1.mv hal hh, h.2.2.1.al hal, h.2.2.2.1.al hal, h.2.2.2.2.1.mv hal hh, h.2.2.2.2.2.1.there hal hh, h.2.2.2.2.2.2⟩) (fun r U U' V V' h1 hal h2 h => Got.mv r U U' V V' h1 hal h2 h) ?_
  intro p e s m args below meth c s₁ X0 hexec hbytes hml hret hlk hnm hown hh0 W hP
  obtain ⟨rfl, hB, f1, f2, hA, s1, hz, l0, l2, hp⟩ := hP
  have c1 : Steps p.tables e below (s₁.setTop (entryFrame m #[.ref a, .ref b] 2)) (s₁.setTop (mkF m 0 #[.val (.ref a), .val (.ref b)] [])) := entry rfl
  have c2 : Steps p.tables e below (s₁.setTop (entryFrame m #[.ref a, .ref b] 2)) (s₁.setTop (mkF m 6 #[.val (.ref a), .val (.ref b)] [.null, .int (Int32.ofNat A.slots.size), .int 0, .ref b, .ref a])) := c1.trans (by
    refine XS.aloadN X0.here hexec rfl (hb hbytes d0) rfl rfl ?_
    refine XS.aloadN X0.here hexec rfl (hb hbytes d1) rfl rfl ?_
    refine iconstV X0.here hexec rfl 0 (hb hbytes d2) (by decide) ?_
    refine XS.aloadN X0.here hexec rfl (hb hbytes d3) rfl rfl ?_
    refine X0.alen hexec (hA.1.mv X0.warmed.alike hh0) rfl rfl (hb hbytes d4) ?_
    refine XS.aconstNull X0.here hexec rfl (hb hbytes d5) ?_
    exact Steps.refl _)
  obtain ⟨v3, T3, X3, E3, g3⟩ := X0.callN hexec (New4.law l a D fV fC b A z 0 A.slots.size) rfl hown (wks W (initW "java/lang/String" 27 New4.yN)) (W New4.tab (by simp only [site, List.mem_cons, List.mem_append, true_or, or_true])) (W := 0) (Nat.le_of_ble_eq_true rfl) (Nat.le_of_ble_eq_true rfl) (Nat.le_refl _) (by show 0 + A.slots.size ≤ A.slots.size; omega) (g := (mkF m 6 #[.val (.ref a), .val (.ref b)] [.null, .int (Int32.ofNat A.slots.size), .int (Int32.ofNat 0), .ref b, .ref a])) rfl (by rw [hml]; rfl) c2 (argsL := [.ref b, .int (Int32.ofNat 0), .int (Int32.ofNat A.slots.size), .null]) (rest := []) rfl rfl (by show 2 * 0 + 0 ≤ _; decide) (hb hbytes d6) (⟨rfl, hB.mv X0.warmed.alike hh0, f1.al X0.warmed.alike, f2.al X0.warmed.alike, hA.mv X0.warmed.alike hh0, s1.there X0.warmed.alike hh0, hz, l0, by omega, l2, fun i hi => by rw [Nat.zero_add]; exact hp i hi⟩)
  have e0 := Got.mv _ s₁ s _ _ hh0.symm (Vm.Alike.refl _) rfl E3
  obtain rfl := e0.1
  have c4 : Steps p.tables e below (s₁.setTop (entryFrame m #[.ref a, .ref b] 2)) (T3.setTop (mkF m 9 #[.val (.ref a), .val (.ref b)] [])) := g3
  exact ⟨T3, none, _, _, _, X3, by simp, rfl, by omega, (fun _ => rfl), e0, fun fs hl => c4.trans (X3.returnOut hexec hret (hb hbytes d9) hl)⟩
theorem pays {l : Launch} {R : Room} {p : Program} {e : Env} {below : List Frame} {s : State} {sargs : Array Value} {len W : Nat} (a : Addr) (D : Cell) (fV fC : Field) (b : Addr) (A : Cell) (z : Int32) (htab : tab.before sargs s = true) (hfr : 4 ≤ R.frames) (hlo : W + 65 ≤ R.locals) :
    Back l R p e below s sargs yN len W (fun A₁ a₁ => A₁.cells + 1 ≤ R.cells ∧ A₁.slots + A.slots.size ≤ R.slots ∧ P a D fV fC b A z a₁ A₁.U) (fun A₁ _ v₁ B₁ => E a D fV fC A v₁ A₁.U B₁.U ∧ B₁.locs = A₁.locs ++ [⟨a, fC.slot⟩, ⟨a, fV.slot⟩] ∧ B₁.cells = A₁.cells + 1 ∧ B₁.slots = A₁.slots + A.slots.size) :=
  (law l a D fV fC b A z).pays htab hfr (by omega)
end New1
/-- the byte, read back as charAt reads it, is the char -/
theorem lo8_mask {x : Int32} (h0 : ¬ x < 0) (h1 : ¬ 255 < x) : lo8 x &&& 255 = x := by
  have t : ∀ k : Fin 256, lo8 (Int32.ofNat k.val) &&& 255 = Int32.ofNat k.val := by decide +kernel
  rw [Int32.lt_iff_toInt_lt] at h0 h1
  have e0 : (0 : Int32).toInt = 0 := rfl
  have e1 : (255 : Int32).toInt = 255 := rfl
  obtain ⟨k, hk⟩ : ∃ k : Nat, x.toInt = k := ⟨x.toInt.toNat, by omega⟩
  have hx : x = Int32.ofNat k := Int32.toInt_inj.mp (by rw [hk, Int32.toInt_ofNat_small (by omega)])
  rw [hx]
  exact t ⟨k, by omega⟩
end StrChars
namespace StrChars.Road
open Jvm Sem ClassFile Op Lib Jvm.Stand Jvm.Free Jvm.Free.XT
open Jvm.Lib.Cold (StaticIs)
abbrev ST : String := "java/lang/String"
/-- every table word that New1's law asks, flat -/
abbrev words : List Jvm.Cond := [.code New1.yN New1.yB 2 none, .initialized ST, .methodLink ST 27 New4.yN, .instanceMethod New4.yN,
  .code New4.yN New4.yB 6 none, .fieldLink ST 38 ST "COMPACT_STRINGS" "Z", .laysFinal ST ST "value" "[B", .fieldLink ST 9 ST "value" "[B", .laysFinal ST ST "coder" "B", .fieldLink ST 15 ST "coder" "B",
  .methodLink ST 1 Lib.objectInit, .instanceMethod Lib.objectInit, .code Lib.objectInit ⟨#[0xb1]⟩ 1 none, .methodLink ST 177 Cmp3.yN, .static Cmp3.yN, .methodLink ST 47 CodL.yN, .static CodL.yN,
  .code Cmp3.yN Cmp3.yB 6 (some (.array .byte)), .initialized U16, .arrayClass .byte, .methodLink U16 115 Cmp5.yN, .static Cmp5.yN, .code Cmp5.yN Cmp5.yB 7 (some .int), .code CodL.yN CodL.yB 2 (some .byte)]
theorem tab_of {a : Array Value} {s : State} (h : ∀ w ∈ words, w.before a s = true) : New1.tab.before a s = true := by
  have h5 : Cmp5.tab.before a s = true := unparts (wk h (.code Cmp5.yN Cmp5.yB 7 (some .int))) (wks h (.initialized Cmp5.yN.cls :: Cmp5.site))
  have hc : CodL.tab.before a s = true := unparts (wk h (.code CodL.yN CodL.yB 2 (some .byte))) (wks h (.initialized CodL.yN.cls :: CodL.site))
  have q5 : ∀ w ∈ Cmp5.tab :: words, w.before a s = true := fun w hw => (List.mem_cons.mp hw).elim (fun e => e ▸ h5) (h w)
  have h3 : Cmp3.tab.before a s = true := unparts (wk q5 (.code Cmp3.yN Cmp3.yB 6 (some (.array .byte)))) (wks q5 (.initialized Cmp3.yN.cls :: Cmp3.site))
  have q3 : ∀ w ∈ Cmp3.tab :: CodL.tab :: words, w.before a s = true := fun w hw => (List.mem_cons.mp hw).elim (fun e => e ▸ h3) fun hw => (List.mem_cons.mp hw).elim (fun e => e ▸ hc) (h w)
  have h4 : New4.tab.before a s = true := unparts (wk q3 (.code New4.yN New4.yB 6 none)) (wks q3 (.initialized New4.yN.cls :: New4.site))
  have q4 : ∀ w ∈ New4.tab :: words, w.before a s = true := fun w hw => (List.mem_cons.mp hw).elim (fun e => e ▸ h4) (h w)
  exact unparts (wk q4 (.code New1.yN New1.yB 2 none)) (wks q4 (.initialized New1.yN.cls :: New1.site))
/-- the words ride from the start Z to the walk's own state -/
theorem moved {Z s : State} {a0 args : Array Value} (hZ : Z.Warmed39 s.vm) (hw : ∀ d ∈ words, d.before a0 Z = true) : ∀ d ∈ words, d.before args s = true := fun d hd => by
  have q := hw d hd
  have t : ∀ d ∈ words, d = .arrayClass .byte ∨ (d.onTables && d.keepsFace) = true := by decide +kernel
  rcases t d hd with rfl | t
  · exact RoadKit.mvA hZ q
  · exact RoadKit.mv hZ q t
/-- WHAT COMES BACK, over the tables of the start Z: h the heap at the call, h' behind it -/
def Q (Z : State) (x : Addr) (A : Cell) (h : Heap) (v : Option Value) (h' : Heap) (L : List Loc) : Prop := v = none ∧ (∀ y ∈ L, y.base = x) ∧ RoadKit.Keep h h' [x] ∧ h'.size = h.size + 1 ∧ RoadKit.Exa Z h' x ST ∧ RoadKit.Fld Z h' x ST "value" "[B" (.ref h.size) ∧ RoadKit.Fld Z h' x ST "coder" "B" (.int 0) ∧
  (∃ V : Cell, RoadKit.Arr Z h' h.size V .byte ∧ V.vm = .none ∧ Z.vm.findClass "[B" = some V.cls ∧ V.slots.size = A.slots.size ∧ ∀ j, j < A.slots.size → V.slots[j]? = some (.int (lo8 (cv A j)))) ∧
  ∀ (O n d : String) (w : Value), RoadKit.Fld Z h x O n d w → RoadKit.slotOf Z O n d ≠ RoadKit.slotOf Z ST "value" "[B" → RoadKit.slotOf Z O n d ≠ RoadKit.slotOf Z ST "coder" "B" → RoadKit.Fld Z h' x O n d w
/-- **new String(chars) AT A CALL, IN THE ROAD'S FORM**: for specialBack behind newO: x the fresh String, b the char[] with the cell A -/
theorem back {p : Program} {l : Launch} {e : Env} {R : Room} {s : State} {args : Array Value} {below : List Frame} {len W : Nat} {Z : State} {a0 : Array Value} {h : Heap} (hZ : Z.Warmed39 s.vm) (hw : ∀ d ∈ words, d.before a0 Z = true) {kI : Nat} (wi : (Jvm.Cond.instantiable ST kI).before a0 Z = true)
    {x b : Addr} {A : Cell} {z : Int32} {v0 c0 : Value} (E : RoadKit.Exa Z h x ST) (V : RoadKit.Fld Z h x ST "value" "[B" v0) (C : RoadKit.Fld Z h x ST "coder" "B" c0) (K : RoadKit.Arr Z h b A .char) (hty : Typed .char A) (S : RoadKit.Sta Z h ST "COMPACT_STRINGS" "Z" (.int z)) (hz : ¬ z = 0)
    (l0 : 0 < A.slots.size) (l2 : A.slots.size ≤ 536870912) (hp : ∀ i, i < A.slots.size → ¬ 255 < cv A i) (hfr : 4 ≤ R.frames) (hlo : W + 65 ≤ R.locals) :
    Back l R p e below s args New1.yN len W (fun P a => a = #[.ref x, .ref b] ∧ P.U.heap = h ∧ P.cells + 1 ≤ R.cells ∧ P.slots + A.slots.size ≤ R.slots)
      (fun P _ v B => ∃ L, Q Z x A h v B.U.heap L ∧ B.locs = P.locs ++ L ∧ B.cells = P.cells + 1 ∧ B.slots = P.slots + A.slots.size) := by
  intro m meth c P g ig mk a X hg hsize hdg hW hn hp'
  obtain ⟨rfl, rfl, r1, r2⟩ := hp'
  have al : Z.vm.Alike P.U.vm := hZ.alike.trans X.warmed.alike
  obtain ⟨D, cfV, kV, iV, fV, hD, gV, stV, knV, obV, asV, slV⟩ := id V
  obtain ⟨D', cfC, kC, iC, fC, hD', gC, stC, -, -, asC, slC⟩ := id C
  cases hD.symm.trans hD'
  obtain ⟨D2, kD, e1, e2, e3, e4, e5⟩ := id E
  cases hD.symm.trans e1
  obtain ⟨c2, k2, i1, i2, i3, -⟩ := Cond.instantiable_spec wi
  cases e2.symm.trans i1
  cases e3.symm.trans i2
  obtain ⟨kU, u1, u2⟩ := al.2.2 _ _ e3
  have hB : Blank ST x D P.U := ⟨hD, ⟨knV, fun q hq => by rw [hq] at obV; cases obV⟩, by rw [al.findClass]; exact e2, kU, u1, by rw [u2]; exact i3, by rw [u2]; exact e5 i3⟩
  have F1 : Found ST "value" "[B" fV P.U := ⟨SBG.found_only al ⟨cfV, kV, iV, gV⟩, stV⟩
  have F2 : Found ST "coder" "B" fC P.U := ⟨SBG.found_only al ⟨cfC, kC, iC, gC⟩, stC⟩
  have hA : Ch b A P.U := ⟨⟨K.1, State.isArrayOf_alike al K.2.1, K.2.2, by omega⟩, hty⟩
  have hS : StaticIs P.U ST "COMPACT_STRINGS" "Z" (.int z) := by
    obtain ⟨cfS, iS, kS, fS, st, cS, t1, t2, t3, t4, t5, t6, t7⟩ := S
    exact StaticIs.there (s := { Z with heap := P.U.heap }) ⟨cfS, iS, kS, fS, st, cS, t1, t2, t3, t4, t5, (fun q => by rw [q] at t6; cases t6), t7⟩ al rfl
  obtain ⟨v, B, X', ⟨⟨hv, E', V', q1, q2, q3, q4, q5, q6, q7, q8, q9, q10, q11⟩, hl, hc, hs⟩, st⟩ := New1.pays x D fV fC b A z (tab_of (moved hZ hw)) hfr hlo m meth c P g ig mk _ X hg hsize hdg hW hn ⟨r1, r2, rfl, hB, F1, F2, hA, hS, hz, l0, l2, hp⟩
  have al' : Z.vm.Alike B.U.vm := hZ.alike.trans X'.warmed.alike
  have hsz : E'.slots.size = D.slots.size := by
    obtain ⟨-, -, -, kB, w1, w2, w3⟩ := q1
    obtain ⟨kB', y1, y2⟩ := al'.2.2 _ _ e3
    rw [q2.2.1] at w1
    cases w1.symm.trans y1
    rw [w3, e5 i3, y2]
  refine ⟨v, B, X', ⟨_, ⟨hv, ?_, ⟨by omega, fun y cy hy hn' => q10 y cy (by simpa using hn') hy, fun y cy hy => ?_⟩, q11, ⟨E', _, q1.1, by rw [q2.2.1]; exact e2, by rw [q2.2.1]; exact e3, by rw [q2.1]; exact obV, fun _ => by rw [hsz]; exact e5 i3⟩,
    ⟨E', cfV, kV, iV, fV, q1.1, gV, stV, by rw [q2.1]; exact knV, by rw [q2.1]; exact obV, by rw [q2.2.1]; exact asV, q3⟩, ⟨E', cfC, kC, iC, fC, q1.1, gC, stC, by rw [q2.1]; exact knV, by rw [q2.1]; exact obV, by rw [q2.2.1]; exact asC, q4⟩,
    ⟨V', ⟨q5.1, State.isArrayOf_alike al'.symm q5.2.1, q5.2.2.1⟩, q6, by rw [← al'.findClass]; exact q7, q8, fun j hj => by have := q9 j hj; rwa [Nat.zero_add] at this⟩, fun O n d w F n1 n2 => ?_⟩, hl, hc, hs⟩, st⟩
  · intro y hy
    simp only [List.mem_cons, List.not_mem_nil, or_false] at hy
    rcases hy with rfl | rfl <;> rfl
  · by_cases q : y = x
    · subst q
      cases hD.symm.trans hy
      exact ⟨E', q1.1, q2.2.1, q2.1, hsz⟩
    · exact ⟨cy, q10 y cy q hy, rfl, rfl, rfl⟩
  · obtain ⟨D3, cf, k, i, f, g1, g2, g3, g4, g5, g6, g7⟩ := F
    cases hD.symm.trans g1
    simp only [RoadKit.slotOf, g2, gV, gC, Option.map_some, Option.getD_some] at n1 n2
    exact ⟨E', cf, k, i, f, q1.1, g2, g3, by rw [q2.1]; exact g4, by rw [q2.1]; exact g5, by rw [q2.2.1]; exact g6, by rw [q2.2.2 f.slot (by simp [n1, n2])]; exact g7⟩
end StrChars.Road
namespace StrChars.Road
open Jvm Sem ClassFile Op Lib Jvm.Stand Jvm.Free Jvm.Free.XT
/-- WHAT COMES BACK, the byte[] as a list of values -/
def QA (Z : State) (x : Addr) (zn : Int32) (cs : List Int32) (h : Heap) (v : Option Value) (h' : Heap) (L : List Loc) : Prop := v = none ∧ (∀ y ∈ L, y.base = x) ∧ RoadKit.Keep h h' [x] ∧ h'.size = h.size + 1 ∧ RoadKit.Exa Z h' x ST ∧ RoadKit.Fld Z h' x ST "value" "[B" (.ref h.size) ∧ RoadKit.Fld Z h' x ST "coder" "B" (.int 0) ∧
  (∃ kb, Z.vm.findClass "[B" = some kb ∧ RoadKit.Arv Z h' h.size kb .byte zn (cs.map fun c => .int (lo8 c)) (.int 0)) ∧
  ∀ (O n d : String) (w : Value), RoadKit.Fld Z h x O n d w → RoadKit.slotOf Z O n d ≠ RoadKit.slotOf Z ST "value" "[B" → RoadKit.slotOf Z O n d ≠ RoadKit.slotOf Z ST "coder" "B" → RoadKit.Fld Z h' x O n d w
/-- **new String(chars) AT A CALL, THE ARRAYS AS LISTS**: the char[] at b holds cs, not empty, no char above 255 -/
theorem backArv {p : Program} {l : Launch} {e : Env} {R : Room} {s : State} {args : Array Value} {below : List Frame} {len W : Nat} {Z : State} {a0 : Array Value} {h : Heap} (hZ : Z.Warmed39 s.vm) (hw : ∀ d ∈ words, d.before a0 Z = true) {kI : Nat} (wi : (Jvm.Cond.instantiable ST kI).before a0 Z = true)
    {x b : Addr} {k : ClassId} {zn z : Int32} {cs : List Int32} {dv v0 c0 : Value} (E : RoadKit.Exa Z h x ST) (V : RoadKit.Fld Z h x ST "value" "[B" v0) (C : RoadKit.Fld Z h x ST "coder" "B" c0) (K : RoadKit.Arv Z h b k .char zn (cs.map Value.int) dv) (S : RoadKit.Sta Z h ST "COMPACT_STRINGS" "Z" (.int z)) (hz : ¬ z = 0)
    (hlen : zn.toNatClampNeg = cs.length) (h0 : 0 < cs.length) (hbig : cs.length ≤ 536870912) (hall : ∀ c ∈ cs, ¬ 255 < c) (hfr : 4 ≤ R.frames) (hlo : W + 65 ≤ R.locals) :
    Back l R p e below s args New1.yN len W (fun P a => a = #[.ref x, .ref b] ∧ P.U.heap = h ∧ P.cells + 1 ≤ R.cells ∧ P.slots + cs.length ≤ R.slots)
      (fun P _ v B => ∃ L, QA Z x zn cs h v B.U.heap L ∧ B.locs = P.locs ++ L ∧ B.cells = P.cells + 1 ∧ B.slots = P.slots + cs.length) := by
  obtain ⟨A, K1, K2, K3, K4, K5, K6⟩ := K
  have e : A.slots.size = cs.length := K3.trans hlen
  have hat : ∀ (i : Nat) (hi : i < cs.length), A.slots[i]? = some (.int cs[i]) := fun i hi => by rw [K5 i (by omega)]; simp [List.getD_eq_getElem?_getD, hi]
  have hcv : ∀ (i : Nat) (hi : i < cs.length), cv A i = cs[i] := fun i hi => by unfold cv; rw [hat i hi]
  have hty : Typed .char A := fun i v hv => by
    have hi : i < A.slots.size := (Array.getElem?_eq_some_iff.mp hv).1
    have q := K5 i hi
    rw [hv] at q
    rw [Option.some.inj q]
    exact K6 i hi
  refine Back.mono (back hZ hw wi E V C K1 hty S hz (by omega) (by omega) (fun i hi => by rw [hcv i (by omega)]; exact hall _ (List.getElem_mem _)) hfr hlo) (fun P a hp => ⟨hp.1, hp.2.1, hp.2.2.1, by rw [e]; exact hp.2.2.2⟩) (fun P a v B hp hq => ?_)
  obtain ⟨L, ⟨q1, q2, q3, q4, q5, q6, q7, ⟨V', v1, v2, v3, v4, v5⟩, q9⟩, hl, hc, hs⟩ := hq
  refine ⟨L, ⟨q1, q2, q3, q4, q5, q6, q7, ⟨V'.cls, v3, V', v1, rfl, by rw [v4, e, hlen], K4, fun i hi => ?_, fun i hi => ?_⟩, q9⟩, hl, hc, by rw [hs, e]⟩
  · have hi' : i < cs.length := by omega
    rw [v5 i (by omega), hcv i hi']; simp [List.getD_eq_getElem?_getD, hi']
  · have hi' : i < cs.length := by omega
    simp only [List.getD_eq_getElem?_getD, List.getElem?_map, List.getElem?_eq_getElem hi', Option.map_some, Option.getD_some]
    exact fits_lo8 _
end StrChars.Road
namespace StrChars.Road
open Jvm Sem ClassFile Op Lib Jvm.Stand Jvm.Free Jvm.Free.XT
/-- WHAT COMES BACK, in the writer's own shape -/
def QV (Z : State) (x : Addr) (N : Int32) (bs : List Int32) (h : Heap) (n0 : Nat) (v : Option Value) (h' : Heap) (L : List Loc) : Prop := v = none ∧ RoadKit.Fr n0 L ∧ RoadKit.Keep h h' [x] ∧ RoadKit.Exa Z h' x ST ∧ RoadKit.Fld Z h' x ST "coder" "B" (.int 0) ∧
  ∃ (t : Addr) (kb : ClassId), n0 ≤ t ∧ h.size ≤ t ∧ ¬ t = x ∧ RoadKit.Fld Z h' x ST "value" "[B" (.ref t) ∧ RoadKit.Arv Z h' t kb .byte N (bs.map Value.int) (.int 0)
/-- **new String(chars) AT A CALL, FOR THE WRITER**: a char[] of n known ints, each 0 to 255 -/
theorem backV {p : Program} {l : Launch} {e : Env} {R : Room} {s : State} {args : Array Value} {below : List Frame} {len W : Nat} {Z : State} {a0 : Array Value} {h : Heap} (hZ : Z.Warmed39 s.vm) (hw : ∀ d ∈ words, d.before a0 Z = true) {kI : Nat} (wi : (Jvm.Cond.instantiable ST kI).before a0 Z = true)
    {x b : Addr} {kC : ClassId} {cs bs : List Int32} {d v0 c0 : Value} {z N : Int32} {n n0 : Nat} (hx0 : n0 ≤ x) (hh0 : n0 ≤ h.size) (E : RoadKit.Exa Z h x ST) (V : RoadKit.Fld Z h x ST "value" "[B" v0) (C : RoadKit.Fld Z h x ST "coder" "B" c0) (K : RoadKit.Arv Z h b kC .char N (cs.map Value.int) d) (S : RoadKit.Sta Z h ST "COMPACT_STRINGS" "Z" (.int z)) (hz : ¬ z = 0)
    (hn : cs.length = n) (hN : N = Int32.ofNat n) (l0 : 0 < n) (l2 : n ≤ 4000) (hp : ∀ c ∈ cs, ¬ c < 0 ∧ ¬ (255 : Int32) < c) (hb : bs = cs.map (fun c => c.toInt8.toInt32)) (hfr : 4 ≤ R.frames) (hlo : W + 65 ≤ R.locals) :
    Back l R p e below s args (⟨"java/lang/String", "<init>", "([C)V"⟩ : MethodName) len W (fun P a => a = #[.ref x, .ref b] ∧ P.U.heap = h ∧ P.cells + 1 ≤ R.cells ∧ P.slots + n ≤ R.slots)
      (fun P _ v B => ∃ L, QV Z x N bs h n0 v B.U.heap L ∧ B.locs = P.locs ++ L ∧ B.cells = P.cells + 1 ∧ B.slots = P.slots + n) := by
  subst hn hN hb
  refine Back.mono (backArv hZ hw wi E V C K S hz (n32 (by omega)) l0 (by omega) (fun c hc => (hp c hc).2) hfr hlo) (fun P a hp => hp) (fun P a v B hp hq => ?_)
  obtain ⟨L, ⟨q1, q2, q3, q4, q5, q6, q7, ⟨kb, v1, v2⟩, q9⟩, hl, hc, hs⟩ := hq
  exact ⟨L, ⟨q1, fun y hy => by rw [q2 y hy]; exact hx0, q3, q5, q7, h.size, kb, hh0, Nat.le_refl _, Nat.ne_of_gt E.lt, q6, by rw [List.map_map]; exact v2⟩, hl, hc, hs⟩
end StrChars.Road
namespace StrChars
open Jvm Sem ClassFile Op Lib Jvm.Stand Jvm.Free.XT Jvm.Free.ALB Jvm.Free.JM Jvm.Free
open Jvm.Lib.Cold (StaticIs)
def hi8 (x : Int32) : Int32 := lo8 (x >>> ((8 : Int32) &&& 31))
/-- what StringUTF16.getChar makes of two bytes -/
def pairCh (u v : Int32) : Int32 := (((u &&& 255) <<< ((0 : Int32) &&& 31)) ||| ((v &&& 255) <<< ((8 : Int32) &&& 31))).toUInt32.toUInt16.toUInt32.toInt32
theorem shr0 (c : Int32) : c >>> ((0 : Int32) &&& 31) = c := by
  have e : ((0 : Int32) &&& 31) = 0 := by decide
  rw [e]
  apply Int32.toBitVec_inj.mp
  rw [Int32.toBitVec_shiftRight]
  have e1 : ((0 : Int32).toBitVec.smod 32) = 0#32 := by decide
  rw [e1, BitVec.sshiftRight_eq']
  exact BitVec.sshiftRight_zero
theorem lo8_and (x : Int32) : (lo8 x &&& 255).toBitVec.toNat = x.toBitVec.toNat % 256 := by
  have h : (lo8 x).toBitVec = (x.toBitVec.signExtend 8).signExtend 32 := by rw [lo8, Int8.toBitVec_toInt32, Int32.toBitVec_toInt8]
  rw [Int32.toBitVec_and, BitVec.toNat_and, h]
  have e : ((x.toBitVec.signExtend 8).signExtend 32).toNat % 256 = x.toBitVec.toNat % 256 := by
    rw [BitVec.toNat_signExtend]
    have hlt := x.toBitVec.isLt
    simp only [BitVec.toNat_setWidth, BitVec.toNat_signExtend]
    split <;> split <;> omega
  rw [← e]
  exact Nat.and_two_pow_sub_one_eq_mod _ 8
theorem pair_says {c : Int32} (h0 : ¬ c < 0) (h1 : ¬ 65535 < c) : pairCh (lo8 c) (hi8 c) = c := by
  rw [Int32.lt_iff_toInt_lt] at h0 h1
  have e0 : (0 : Int32).toInt = 0 := rfl
  have e1 : (65535 : Int32).toInt = 65535 := rfl
  have hc : c.toInt = c.toBitVec.toNat := by
    have := c.toBitVec.isLt
    have e : c.toInt = c.toBitVec.toInt := rfl
    rw [e] at h0 h1
    rw [e]
    rw [BitVec.toInt_eq_toNat_cond] at h0 h1 ⊢
    split at h0 <;> split <;> omega
  have hn : c.toBitVec.toNat < 65536 := by omega
  have a1 := lo8_and c
  have a2 : (hi8 c &&& 255).toBitVec.toNat = c.toBitVec.toNat / 256 := by
    rw [hi8, lo8_and]
    have e : ((8 : Int32) &&& 31) = 8 := by decide
    rw [e, Int32.toBitVec_shiftRight]
    have e2 : ((8 : Int32).toBitVec.smod 32) = 8#32 := by decide
    rw [e2, BitVec.sshiftRight_eq', BitVec.toNat_sshiftRight_of_msb_false (by rw [BitVec.msb_eq_false_iff_two_mul_lt]; omega)]
    show c.toBitVec.toNat >>> 8 % 256 = _
    rw [Nat.shiftRight_eq_div_pow]
    omega
  unfold pairCh
  apply Int32.toBitVec_inj.mp
  apply BitVec.eq_of_toNat_eq
  have f0 : ((0 : Int32) &&& 31) = 0 := by decide
  have f8 : ((8 : Int32) &&& 31) = 8 := by decide
  rw [f0, f8]
  have g : (((lo8 c &&& 255) <<< (0 : Int32)) ||| ((hi8 c &&& 255) <<< (8 : Int32))).toBitVec.toNat = c.toBitVec.toNat := by
    rw [Int32.toBitVec_or, Int32.toBitVec_shiftLeft, Int32.toBitVec_shiftLeft]
    have s0 : ((0 : Int32).toBitVec.smod 32) = 0#32 := by decide
    have s8 : ((8 : Int32).toBitVec.smod 32) = 8#32 := by decide
    rw [s0, s8, BitVec.toNat_or]
    simp only [BitVec.shiftLeft_eq', BitVec.toNat_shiftLeft, a1, a2]
    show (c.toBitVec.toNat % 256) <<< 0 % 2 ^ 32 ||| (c.toBitVec.toNat / 256) <<< 8 % 2 ^ 32 = _
    rw [Nat.shiftLeft_zero, Nat.mod_eq_of_lt (show c.toBitVec.toNat % 256 < 2 ^ 32 by omega), Nat.mod_eq_of_lt (show (c.toBitVec.toNat / 256) <<< 8 < 2 ^ 32 by rw [Nat.shiftLeft_eq]; omega), Nat.or_comm, ← Nat.shiftLeft_add_eq_or_of_lt (by omega), Nat.shiftLeft_eq]
    omega
  show BitVec.toNat (((((lo8 c &&& 255) <<< (0 : Int32)) ||| ((hi8 c &&& 255) <<< (8 : Int32))).toBitVec.setWidth 16).setWidth 32) = _
  rw [BitVec.toNat_setWidth, BitVec.toNat_setWidth, g]
  omega
end StrChars
namespace StrChars
open Jvm Sem ClassFile Op Lib Jvm.Stand Jvm.Free.XT Jvm.Free.ALB Jvm.Free.JM Jvm.Free
open Jvm.Lib.Cold (StaticIs)
theorem shr1 {n : Nat} (h : 2 * n < 2 ^ 31) : Int32.ofNat (2 * n) >>> ((1 : Int32) &&& 31) = Int32.ofNat n := by
  have e : ((1 : Int32) &&& 31) = 1 := by decide
  rw [e]
  apply Int32.toBitVec_inj.mp
  rw [Int32.toBitVec_shiftRight]
  have e1 : ((1 : Int32).toBitVec.smod 32) = 1#32 := by decide
  have hm : (BitVec.ofNat 32 (2 * n)).toNat = 2 * n := by rw [BitVec.toNat_ofNat, Nat.mod_eq_of_lt (by omega)]
  rw [e1, BitVec.sshiftRight_eq']
  apply BitVec.eq_of_toNat_eq
  show ((BitVec.ofNat 32 (2 * n)).sshiftRight 1).toNat = (BitVec.ofNat 32 n).toNat
  rw [BitVec.toNat_sshiftRight_of_msb_false (by rw [BitVec.msb_eq_false_iff_two_mul_lt, hm]; omega), hm, BitVec.toNat_ofNat, Nat.shiftRight_eq_div_pow]
  omega
/-- charAt's cast of a byte read back -/
def chr8 (u : Int32) : Int32 := (u &&& 255).toUInt32.toUInt16.toUInt32.toInt32
theorem chr8_lo8 {c : Int32} (h0 : ¬ c < 0) (h1 : ¬ 255 < c) : chr8 (lo8 c) = c := by
  have t : ∀ k : Fin 256, (Int32.ofNat k.val).toUInt32.toUInt16.toUInt32.toInt32 = Int32.ofNat k.val := by decide +kernel
  unfold chr8
  rw [lo8_mask h0 h1]
  rw [Int32.lt_iff_toInt_lt] at h0 h1
  have e0 : (0 : Int32).toInt = 0 := rfl
  have e1 : (255 : Int32).toInt = 255 := rfl
  obtain ⟨k, hk⟩ : ∃ k : Nat, c.toInt = k := ⟨c.toInt.toNat, by omega⟩
  have hx : c = Int32.ofNat k := Int32.toInt_inj.mp (by rw [hk, Int32.toInt_ofNat_small (by omega)])
  rw [hx]
  exact t ⟨k, by omega⟩
theorem narrow_ch {c : Int32} (h0 : ¬ c < 0) (h1 : ¬ 65535 < c) : narrow .char (.int c) = .int c := by
  have q : narrow .char (.int (pairCh (lo8 c) (hi8 c))) = .int (pairCh (lo8 c) (hi8 c)) := narrow_c _
  rwa [pair_says h0 h1] at q
/-- the array's cell V codes the n chars f 0 .. f (n - 1) by the coder cd, as the JDK does: coder 1 just where some char is above 255 -/
def Cod (cd : Int32) (n : Nat) (f : Nat → Int32) (V : Cell) : Prop := (cd = 0 ∧ V.slots.size = n ∧ ∀ j, j < n → V.slots[j]? = some (.int (lo8 (f j))) ∧ ¬ 255 < f j) ∨ (cd = 1 ∧ V.slots.size = 2 * n ∧ (∀ j, j < n → V.slots[2 * j]? = some (.int (lo8 (f j))) ∧ V.slots[2 * j + 1]? = some (.int (hi8 (f j)))) ∧ ∃ j, j < n ∧ 255 < f j)
theorem Cod.cd {cd : Int32} {n : Nat} {f : Nat → Int32} {V : Cell} (h : Cod cd n f V) : cd = 0 ∨ cd = 1 := h.imp (fun q => q.1) fun q => q.1
theorem Cod.len {cd : Int32} {n : Nat} {f : Nat → Int32} {V : Cell} (h : Cod cd n f V) (hs : V.slots.size < 2 ^ 31) : Int32.ofNat V.slots.size >>> (cd &&& 31) = Int32.ofNat n := by
  rcases h with ⟨rfl, h, -⟩ | ⟨rfl, h, -⟩
  · rw [shr0, h]
  · rw [h, shr1 (by omega)]
/-- **x is a String of the n chars f 0 .. f (n - 1)**, Latin-1 or UTF-16; its array at t has the cell V -/
def Txt (x t : Addr) (V : Cell) (cd : Int32) (n : Nat) (f : Nat → Int32) (U : State) : Prop := Exact "java/lang/String" x U ∧ Has x "java/lang/String" "value" "[B" (.ref t) U ∧ Has x "java/lang/String" "coder" "B" (.int cd) U ∧ XT.Arr .byte t V U ∧ Cod cd n f V ∧ ∀ j, j < n → ¬ f j < 0 ∧ ¬ 65535 < f j
theorem Txt.mv {x t : Addr} {V : Cell} {cd : Int32} {n : Nat} {f : Nat → Int32} {U U' : State} (h : Txt x t V cd n f U) (hal : U.vm.Alike U'.vm) (hh : U'.heap = U.heap) : Txt x t V cd n f U' := ⟨h.1.mv hal hh, h.2.1.mv hal hh, h.2.2.1.mv hal hh, h.2.2.2.1.mv hal hh, h.2.2.2.2⟩
namespace Cdr
def yN : MethodName := ⟨"java/lang/String", "coder", "()B"⟩
abbrev yB : ByteArray := jdk_42_method_152_code
theorem d0 : decode yB 0 = .ok (.getstatic 38, 3) := by decide +kernel
theorem d3 : decode yB 3 = .ok (.ifCond (.eq) 10, 3) := by decide +kernel
theorem d6 : decode yB 6 = .ok (.aload_n 0, 1) := by decide +kernel
theorem d7 : decode yB 7 = .ok (.getfield 15, 3) := by decide +kernel
theorem d10 : decode yB 10 = .ok (.goto 4, 3) := by decide +kernel
theorem d14 : decode yB 14 = .ok (.ireturn, 1) := by decide +kernel
def site : List Cond := [.fieldLink "java/lang/String" 38 "java/lang/String" "COMPACT_STRINGS" "Z", .fieldLink "java/lang/String" 15 "java/lang/String" "coder" "B"]
def tab : Cond := tabOf yN yB 1 (some .byte) site
def P (x : Addr) (cd z : Int32) (args : Array Value) (s : State) : Prop := args = #[.ref x] ∧ Has x "java/lang/String" "coder" "B" (.int cd) s ∧ (cd = 0 ∨ cd = 1) ∧ StaticIs s "java/lang/String" "COMPACT_STRINGS" "Z" (.int z) ∧ ¬ z = 0
def E (cd : Int32) (r : Option Value) (s u : State) : Prop := XT.PureE (some (.int cd)) r s u
theorem law (l : Launch) (x : Addr) (cd z : Int32) : Law l yN 1 0 0 0 yB 1 (some .byte) site (P x cd z) (E cd) [] 0 0 := by
  refine Law.of_walk (plainFor_of_name (by decide +kernel)) (by decide +kernel) (by decide +kernel) (by decide) (fun _ _ h => by rw [h.1]; rfl) (fun _ U U' hal hh h => ⟨h.1, h.2.1.mv hal hh, h.2.2.1, h.2.2.2.1.there hal hh, h.2.2.2.2⟩) (fun r U U' V V' h1 hal h2 h => XT.PureE.mv r U U' V V' h1 hal h2 h) ?_
  intro p e s m args below meth c s₁ X0 hexec hbytes hml hret hlk hnm hown hh0 W hP
  obtain ⟨rfl, hx, hc, s1, hz⟩ := hP
  have c1 : Steps p.tables e below (s₁.setTop (entryFrame m #[.ref x] 1)) (s₁.setTop (mkF m 0 #[.val (.ref x)] [])) := entry rfl
  obtain ⟨T2, X2, q2, st2⟩ := X0.sget hexec hown (wk W (.fieldLink "java/lang/String" 38 "java/lang/String" "COMPACT_STRINGS" "Z")) s1 (fun _ _ h => by rw [hh0]; exact h) (g := (mkF m 0 #[.val (.ref x)] [])) rfl (hb hbytes d0)
  have hh2 := q2.trans hh0
  have c3 : Steps p.tables e below (s₁.setTop (entryFrame m #[.ref x] 1)) (T2.setTop (mkF m 7 #[.val (.ref x)] [.ref x])) := (c1.trans (st2 _ (Steps.refl _))).trans (by
    refine XS.ifNo X2.here hexec rfl (hb hbytes d3) rfl (i0_eq_f hz) ?_
    refine XS.aloadN X2.here hexec rfl (hb hbytes d6) rfl rfl ?_
    exact Steps.refl _)
  obtain ⟨T4, X4, q4, st4⟩ := X2.hget hexec hown (wk W (.fieldLink "java/lang/String" 15 "java/lang/String" "coder" "B")) (hx.mv X2.warmed.alike hh2) (g := (mkF m 7 #[.val (.ref x)] [.ref x])) rfl (rest := []) rfl (hb hbytes d7)
  have c5 : Steps p.tables e below (s₁.setTop (entryFrame m #[.ref x] 1)) (T4.setTop (mkF m 14 #[.val (.ref x)] [.int cd])) := (c3.trans (st4 _ (Steps.refl _))).trans (by
    refine XS.goto X4.here hexec rfl (pc0 := 10) rfl (hb hbytes d10) (by decide) rfl ?_
    exact Steps.refl _)
  exact ⟨T4, some (.int cd), _, _, _, X4, rfl, rfl, rfl, (fun h => by cases h), ⟨rfl, q4.trans hh2⟩, fun fs hl => c5.trans (X4.ireturnOut hexec hret (by rcases hc with rfl | rfl <;> rfl) (Or.inr (Or.inr (Or.inl rfl))) (hb hbytes d14) hl)⟩
end Cdr
namespace Len
def yN : MethodName := ⟨"java/lang/String", "length", "()I"⟩
abbrev yB : ByteArray := jdk_42_method_54_code
theorem d0 : decode yB 0 = .ok (.aload_n 0, 1) := by decide +kernel
theorem d1 : decode yB 1 = .ok (.getfield 9, 3) := by decide +kernel
theorem d4 : decode yB 4 = .ok (.arraylength, 1) := by decide +kernel
theorem d5 : decode yB 5 = .ok (.aload_n 0, 1) := by decide +kernel
theorem d6 : decode yB 6 = .ok (.invokevirtual 335, 3) := by decide +kernel
theorem d9 : decode yB 9 = .ok (.ishr, 1) := by decide +kernel
theorem d10 : decode yB 10 = .ok (.ireturn, 1) := by decide +kernel
def site : List Cond := [.fieldLink "java/lang/String" 9 "java/lang/String" "value" "[B", Cdr.tab] ++ virtW "java/lang/String" 335 "java/lang/String" Cdr.yN Cdr.yN
def tab : Cond := tabOf yN yB 1 (some .int) site
def P (x t : Addr) (V : Cell) (cd : Int32) (n : Nat) (f : Nat → Int32) (z : Int32) (args : Array Value) (s : State) : Prop := args = #[.ref x] ∧ Txt x t V cd n f s ∧ StaticIs s "java/lang/String" "COMPACT_STRINGS" "Z" (.int z) ∧ ¬ z = 0
def E (n : Nat) (r : Option Value) (s u : State) : Prop := XT.PureE (some (.int (Int32.ofNat n))) r s u
/-- length() of a String of n chars, in either coding -/
theorem law (l : Launch) (x t : Addr) (V : Cell) (cd : Int32) (n : Nat) (f : Nat → Int32) (z : Int32) : Law l yN 1 0 1 13 yB 1 (some .int) site (P x t V cd n f z) (E n) [] 0 0 := by
  refine Law.of_walk (plainFor_of_name (by decide +kernel)) (by decide +kernel) (by decide +kernel) (by decide) (fun _ _ h => by rw [h.1]; rfl) (fun _ U U' hal hh h => ⟨h.1, h.2.1.mv hal hh, h.2.2.1.there hal hh, h.2.2.2⟩) (fun r U U' V V' h1 hal h2 h => XT.PureE.mv r U U' V V' h1 hal h2 h) ?_
  intro p e s m args below meth c s₁ X0 hexec hbytes hml hret hlk hnm hown hh0 W hP
  obtain ⟨rfl, hx, s1, hz⟩ := hP
  have v31 := hx.2.2.2.1.2.2.2
  have c1 : Steps p.tables e below (s₁.setTop (entryFrame m #[.ref x] 1)) (s₁.setTop (mkF m 1 #[.val (.ref x)] [.ref x])) := Steps.trans (entry rfl) (by
    show Steps p.tables e below (s₁.setTop (mkF m 0 #[.val (.ref x)] [])) _
    refine XS.aloadN X0.here hexec rfl (hb hbytes d0) rfl rfl ?_
    exact Steps.refl _)
  obtain ⟨T2, X2, q2, st2⟩ := X0.hget hexec hown (wk W (.fieldLink "java/lang/String" 9 "java/lang/String" "value" "[B")) (hx.mv X0.warmed.alike hh0).2.1 (g := (mkF m 1 #[.val (.ref x)] [.ref x])) rfl (rest := []) rfl (hb hbytes d1)
  have hh2 := q2.trans hh0
  have hx2 := hx.mv X2.warmed.alike hh2
  have c3 : Steps p.tables e below (s₁.setTop (entryFrame m #[.ref x] 1)) (T2.setTop (mkF m 6 #[.val (.ref x)] [.ref x, .int (Int32.ofNat V.slots.size)])) := (c1.trans (st2 _ (Steps.refl _))).trans (by
    refine X2.alen hexec hx2.2.2.2.1 rfl rfl (hb hbytes d4) ?_
    refine XS.aloadN X2.here hexec rfl (hb hbytes d5) rfl rfl ?_
    exact Steps.refl _)
  obtain ⟨v4, T4, X4, E4, g4⟩ := X2.callV hexec (Cdr.law l x cd z) hown (wks W (virtW "java/lang/String" 335 "java/lang/String" Cdr.yN Cdr.yN)) rfl (by decide) (wk W Cdr.tab) (W := 1) (Nat.le_of_ble_eq_true rfl) (Nat.le_of_ble_eq_true rfl) (Nat.le_refl _) (Nat.le_refl _) (hx2.1.fc X2.warmed.alike) hx2.1.is (g := (mkF m 6 #[.val (.ref x)] [.ref x, .int (Int32.ofNat V.slots.size)])) rfl (by rw [hml]; rfl) c3 (argsL := []) (rest := [.int (Int32.ofNat V.slots.size)]) rfl rfl (by show 2 * 0 + (1 + 0) ≤ _; decide) (hb hbytes d6) (⟨rfl, hx2.2.2.1, hx.2.2.2.2.1.cd, s1.there X2.warmed.alike hh2, hz⟩)
  obtain ⟨rfl, q4⟩ := E4
  have c5 : Steps p.tables e below (s₁.setTop (entryFrame m #[.ref x] 1)) (T4.setTop (mkF m 10 #[.val (.ref x)] [.int (Int32.ofNat V.slots.size >>> (cd &&& 31))])) := Steps.trans g4 (by
    refine ishr X4.here hexec rfl (hb hbytes d9) rfl ?_
    exact Steps.refl _)
  rw [hx.2.2.2.2.1.len v31] at c5
  exact ⟨T4, some (.int (Int32.ofNat n)), _, _, _, X4, rfl, rfl, rfl, (fun h => by cases h), ⟨rfl, q4.trans hh2⟩, fun fs hl => c5.trans (X4.ireturnOut hexec hret rfl (Or.inl rfl) (hb hbytes d10) hl)⟩
theorem pays {l : Launch} {R : Room} {p : Program} {e : Env} {below : List Frame} {s : State} {sargs : Array Value} {len W : Nat} (x t : Addr) (V : Cell) (cd : Int32) (n : Nat) (f : Nat → Int32) (z : Int32) (htab : tab.before sargs s = true) (hfr : 2 ≤ R.frames) (hlo : W + 25 ≤ R.locals) :
    Back l R p e below s sargs yN len W (fun A₁ a₁ => A₁.cells + 0 ≤ R.cells ∧ A₁.slots + 0 ≤ R.slots ∧ P x t V cd n f z a₁ A₁.U) (fun A₁ _ v₁ B₁ => E n v₁ A₁.U B₁.U ∧ B₁.locs = A₁.locs ++ [] ∧ B₁.cells = A₁.cells + 0 ∧ B₁.slots = A₁.slots + 0) :=
  (law l x t V cd n f z).pays htab hfr (by omega)
end Len
namespace IsL
def yN : MethodName := ⟨"java/lang/String", "isLatin1", "()Z"⟩
abbrev yB : ByteArray := jdk_42_method_154_code
theorem d0 : decode yB 0 = .ok (.getstatic 38, 3) := by decide +kernel
theorem d3 : decode yB 3 = .ok (.ifCond (.eq) 14, 3) := by decide +kernel
theorem d6 : decode yB 6 = .ok (.aload_n 0, 1) := by decide +kernel
theorem d7 : decode yB 7 = .ok (.getfield 15, 3) := by decide +kernel
theorem d10 : decode yB 10 = .ok (.ifCond (.ne) 7, 3) := by decide +kernel
theorem d13 : decode yB 13 = .ok (.iconst 1, 1) := by decide +kernel
theorem d14 : decode yB 14 = .ok (.goto 4, 3) := by decide +kernel
theorem d17 : decode yB 17 = .ok (.iconst 0, 1) := by decide +kernel
theorem d18 : decode yB 18 = .ok (.ireturn, 1) := by decide +kernel
def site : List Cond := [.fieldLink "java/lang/String" 38 "java/lang/String" "COMPACT_STRINGS" "Z", .fieldLink "java/lang/String" 15 "java/lang/String" "coder" "B"]
def tab : Cond := tabOf yN yB 1 (some .boolean) site
def P (x : Addr) (cd z : Int32) (args : Array Value) (s : State) : Prop := args = #[.ref x] ∧ Has x "java/lang/String" "coder" "B" (.int cd) s ∧ (cd = 0 ∨ cd = 1) ∧ StaticIs s "java/lang/String" "COMPACT_STRINGS" "Z" (.int z) ∧ ¬ z = 0
def E (cd : Int32) (r : Option Value) (s u : State) : Prop := XT.PureE (some (.int (1 - cd))) r s u
theorem law (l : Launch) (x : Addr) (cd z : Int32) : Law l yN 1 0 0 0 yB 1 (some .boolean) site (P x cd z) (E cd) [] 0 0 := by
  refine Law.of_walk (plainFor_of_name (by decide +kernel)) (by decide +kernel) (by decide +kernel) (by decide) (fun _ _ h => by rw [h.1]; rfl) (fun _ U U' hal hh h => ⟨h.1, h.2.1.mv hal hh, h.2.2.1, h.2.2.2.1.there hal hh, h.2.2.2.2⟩) (fun r U U' V V' h1 hal h2 h => XT.PureE.mv r U U' V V' h1 hal h2 h) ?_
  intro p e s m args below meth c s₁ X0 hexec hbytes hml hret hlk hnm hown hh0 W hP
  obtain ⟨rfl, hx, hc, s1, hz⟩ := hP
  have c1 : Steps p.tables e below (s₁.setTop (entryFrame m #[.ref x] 1)) (s₁.setTop (mkF m 0 #[.val (.ref x)] [])) := entry rfl
  obtain ⟨T2, X2, q2, st2⟩ := X0.sget hexec hown (wk W (.fieldLink "java/lang/String" 38 "java/lang/String" "COMPACT_STRINGS" "Z")) s1 (fun _ _ h => by rw [hh0]; exact h) (g := (mkF m 0 #[.val (.ref x)] [])) rfl (hb hbytes d0)
  have hh2 := q2.trans hh0
  have c3 : Steps p.tables e below (s₁.setTop (entryFrame m #[.ref x] 1)) (T2.setTop (mkF m 7 #[.val (.ref x)] [.ref x])) := (c1.trans (st2 _ (Steps.refl _))).trans (by
    refine XS.ifNo X2.here hexec rfl (hb hbytes d3) rfl (i0_eq_f hz) ?_
    refine XS.aloadN X2.here hexec rfl (hb hbytes d6) rfl rfl ?_
    exact Steps.refl _)
  obtain ⟨T4, X4, q4, st4⟩ := X2.hget hexec hown (wk W (.fieldLink "java/lang/String" 15 "java/lang/String" "coder" "B")) (hx.mv X2.warmed.alike hh2) (g := (mkF m 7 #[.val (.ref x)] [.ref x])) rfl (rest := []) rfl (hb hbytes d7)
  have c5 : Steps p.tables e below (s₁.setTop (entryFrame m #[.ref x] 1)) (T4.setTop (mkF m 10 #[.val (.ref x)] [.int cd])) := c3.trans (st4 _ (Steps.refl _))
  have c6 : Steps p.tables e below (s₁.setTop (entryFrame m #[.ref x] 1)) (T4.setTop (mkF m 18 #[.val (.ref x)] [.int (1 - cd)])) := by
    rcases hc with rfl | rfl
    · exact c5.trans (by
        refine XS.ifNo X4.here hexec rfl (hb hbytes d10) rfl (i0_ne_f rfl) ?_
        refine iconstV X4.here hexec rfl 1 (hb hbytes d13) (by decide) ?_
        refine XS.goto X4.here hexec rfl (pc0 := 14) rfl (hb hbytes d14) (by decide) rfl ?_
        exact Steps.refl _)
    · exact c5.trans (by
        refine XS.ifYes X4.here hexec rfl (pc0 := 10) rfl (hb hbytes d10) rfl (i0_ne_t (by decide)) (by decide) rfl ?_
        refine iconstV X4.here hexec rfl 0 (hb hbytes d17) (by decide) ?_
        exact Steps.refl _)
  exact ⟨T4, some (.int (1 - cd)), _, _, _, X4, rfl, rfl, rfl, (fun h => by cases h), ⟨rfl, q4.trans hh2⟩, fun fs hl => c6.trans (X4.ireturnOut hexec hret (by rcases hc with rfl | rfl <;> rfl) (Or.inr (Or.inl rfl)) (hb hbytes d18) hl)⟩
end IsL
namespace LChA
def yN : MethodName := ⟨"java/lang/StringLatin1", "charAt", "([BI)C"⟩
abbrev yB : ByteArray := jdk_43_method_2_code
theorem d0 : decode yB 0 = .ok (.iload_n 1, 1) := by decide +kernel
theorem d1 : decode yB 1 = .ok (.aload_n 0, 1) := by decide +kernel
theorem d2 : decode yB 2 = .ok (.arraylength, 1) := by decide +kernel
theorem d3 : decode yB 3 = .ok (.invokestatic 9, 3) := by decide +kernel
theorem d6 : decode yB 6 = .ok (.aload_n 0, 1) := by decide +kernel
theorem d7 : decode yB 7 = .ok (.iload_n 1, 1) := by decide +kernel
theorem d8 : decode yB 8 = .ok (.baload, 1) := by decide +kernel
theorem d9 : decode yB 9 = .ok (.sipush 255, 3) := by decide +kernel
theorem d12 : decode yB 12 = .ok (.iand, 1) := by decide +kernel
theorem d13 : decode yB 13 = .ok (.i2c, 1) := by decide +kernel
theorem d14 : decode yB 14 = .ok (.ireturn, 1) := by decide +kernel
def site : List Cond := [JO.Str_checkIndex.tab] ++ staticW "java/lang/StringLatin1" 9 JO.Str_checkIndex.yN
def tab : Cond := tabOf yN yB 2 (some .char) site
def P (t : Addr) (V : Cell) (i : Nat) (u : Int32) (fm : Value) (args : Array Value) (s : State) : Prop := args = #[.ref t, .int (Int32.ofNat i)] ∧ XT.Arr .byte t V s ∧ V.slots[i]? = some (.int u) ∧ (StaticIs s "jdk/internal/util/Preconditions" "SIOOBE_FORMATTER" "Ljava/util/function/BiFunction;" fm ∧ fm.isRef = true)
def E (u : Int32) (r : Option Value) (s w : State) : Prop := XT.PureE (some (.int (chr8 u))) r s w
theorem law (l : Launch) (t : Addr) (V : Cell) (i : Nat) (u : Int32) (fm : Value) : Law l yN 2 2 2 27 yB 2 (some .char) site (P t V i u fm) (E u) [] 0 0 := by
  refine Law.of_walk (plainFor_of_name (by decide +kernel)) (by decide +kernel) (by decide +kernel) (by decide) (fun _ _ h => by rw [h.1]; rfl) (fun _ U U' hal hh h => ⟨h.1, h.2.1.mv hal hh, h.2.2.1, h.2.2.2.1.there hal hh, h.2.2.2.2⟩) (fun r U U' V V' h1 hal h2 h => XT.PureE.mv r U U' V V' h1 hal h2 h) ?_
  intro p e s m args below meth c s₁ X0 hexec hbytes hml hret hlk hnm hown hh0 W hP
  obtain ⟨rfl, hV, hu, s1, rf⟩ := hP
  have v31 := hV.2.2.2
  have hi : i < V.slots.size := (Array.getElem?_eq_some_iff.mp hu).1
  have c1 : Steps p.tables e below (s₁.setTop (entryFrame m #[.ref t, .int (Int32.ofNat i)] 2)) (s₁.setTop (mkF m 0 #[.val (.ref t), .val (.int (Int32.ofNat i))] [])) := entry rfl
  have c2 : Steps p.tables e below (s₁.setTop (entryFrame m #[.ref t, .int (Int32.ofNat i)] 2)) (s₁.setTop (mkF m 3 #[.val (.ref t), .val (.int (Int32.ofNat i))] [.int (Int32.ofNat V.slots.size), .int (Int32.ofNat i)])) := c1.trans (by
    refine XS.iloadN X0.here hexec rfl (hb hbytes d0) rfl ?_
    refine XS.aloadN X0.here hexec rfl (hb hbytes d1) rfl rfl ?_
    refine X0.alen hexec (hV.mv X0.warmed.alike hh0) rfl rfl (hb hbytes d2) ?_
    exact Steps.refl _)
  obtain ⟨v3, T3, X3, E3, g3⟩ := X0.callS hexec (JO.Str_checkIndex.law l (Int32.ofNat i) (Int32.ofNat V.slots.size) fm) hown (wks W (staticW "java/lang/StringLatin1" 9 JO.Str_checkIndex.yN)) (wk W JO.Str_checkIndex.tab) (W := 0) (Nat.le_of_ble_eq_true rfl) (Nat.le_of_ble_eq_true rfl) (Nat.le_refl _) (Nat.le_refl _) (g := (mkF m 3 #[.val (.ref t), .val (.int (Int32.ofNat i))] [.int (Int32.ofNat V.slots.size), .int (Int32.ofNat i)])) rfl (by rw [hml]; rfl) c2 (argsL := [.int (Int32.ofNat i), .int (Int32.ofNat V.slots.size)]) (rest := []) rfl rfl (by show 2 * 0 + 0 ≤ _; decide) (hb hbytes d3) (⟨rfl, rf, s1.there X0.warmed.alike hh0, Int32.ofNat_not_neg (by omega), lt32 v31 hi⟩)
  obtain ⟨rfl, q3⟩ := E3
  have hh3 := q3.trans hh0
  have c4 : Steps p.tables e below (s₁.setTop (entryFrame m #[.ref t, .int (Int32.ofNat i)] 2)) (T3.setTop (mkF m 14 #[.val (.ref t), .val (.int (Int32.ofNat i))] [.int (chr8 u)])) := Steps.trans g3 (by
    refine XS.aloadN X3.here hexec rfl (hb hbytes d6) rfl rfl ?_
    refine XS.iloadN X3.here hexec rfl (hb hbytes d7) rfl ?_
    refine X3.aget hexec (hV.mv X3.warmed.alike hh3) rfl hu rfl rfl (hb hbytes d8) ?_
    refine sipushV X3.here hexec rfl 255 (hb hbytes d9) (by decide) ?_
    refine XS.iand X3.here hexec rfl (hb hbytes d12) rfl ?_
    refine i2c X3.here hexec rfl (hb hbytes d13) rfl ?_
    exact Steps.refl _)
  exact ⟨T3, some (.int (chr8 u)), _, _, _, X3, rfl, rfl, rfl, (fun h => by cases h), ⟨rfl, hh3⟩, fun fs hl => c4.trans (X3.ireturnOut hexec hret (narrow_c _) (Or.inr (Or.inr (Or.inr (Or.inl rfl)))) (hb hbytes d14) hl)⟩
end LChA
end StrChars
namespace StrChars.Road
open Jvm Sem ClassFile Op Lib Jvm.Stand Jvm.Free Jvm.Free.XT
open Jvm.Lib.Cold (StaticIs)
theorem consq {a : Array Value} {s : State} {c : Jvm.Cond} {L : List Jvm.Cond} (h0 : c.before a s = true) (h : ∀ w ∈ L, w.before a s = true) : ∀ w ∈ c :: L, w.before a s = true := fun w hw => (List.mem_cons.mp hw).elim (fun e => e ▸ h0) (h w)
/-- the words of String.length(), either coding -/
abbrev wordsLen : List Jvm.Cond := [.code Len.yN Len.yB 1 (some .int), .initialized ST, .fieldLink ST 9 ST "value" "[B", .fieldLink ST 38 ST "COMPACT_STRINGS" "Z", .fieldLink ST 15 ST "coder" "B", .code Cdr.yN Cdr.yB 1 (some .byte), .methodLink ST 335 Cdr.yN, .declares Cdr.yN, .selects ST Cdr.yN Cdr.yN, .instanceMethod Cdr.yN]
theorem tabLen_of {a : Array Value} {s : State} (h : ∀ w ∈ wordsLen, w.before a s = true) : Len.tab.before a s = true := by
  have hc : Cdr.tab.before a s = true := unparts (wk h (.code Cdr.yN Cdr.yB 1 (some .byte))) (wks h (.initialized Cdr.yN.cls :: Cdr.site))
  have q := consq hc h
  exact unparts (wk q (.code Len.yN Len.yB 1 (some .int))) (wks q (.initialized Len.yN.cls :: Len.site))
theorem movedLen {Z s : State} {a0 args : Array Value} (hZ : Z.Warmed39 s.vm) (hw : ∀ d ∈ wordsLen, d.before a0 Z = true) : ∀ d ∈ wordsLen, d.before args s = true := fun d hd => by
  have q := hw d hd
  have t : ∀ d ∈ wordsLen, d = .arrayClass .byte ∨ (d.onTables && d.keepsFace) = true := by decide +kernel
  rcases t d hd with rfl | t
  · exact RoadKit.mvA hZ q
  · exact RoadKit.mv hZ q t
/-- the bytes of the chars cs, low before high -/
def wideBytes : List Int32 → List Value
  | [] => []
  | c :: cs => .int (lo8 c) :: .int (hi8 c) :: wideBytes cs
theorem wide_lo (d : Value) : ∀ (cs : List Int32) (j : Nat), j < cs.length → (wideBytes cs).getD (2 * j) d = .int (lo8 (cs.getD j 0))
  | [], j, h => absurd h (Nat.not_lt_zero j)
  | c :: cs, 0, _ => rfl
  | c :: cs, j + 1, h => by
    have q := wide_lo d cs j (by simpa using h)
    rw [show 2 * (j + 1) = 2 * j + 1 + 1 from by omega]
    simpa [wideBytes] using q
theorem wide_hi (d : Value) : ∀ (cs : List Int32) (j : Nat), j < cs.length → (wideBytes cs).getD (2 * j + 1) d = .int (hi8 (cs.getD j 0))
  | [], j, h => absurd h (Nat.not_lt_zero j)
  | c :: cs, 0, _ => rfl
  | c :: cs, j + 1, h => by
    have q := wide_hi d cs j (by simpa using h)
    rw [show 2 * (j + 1) + 1 = 2 * j + 1 + 1 + 1 from by omega]
    simpa [wideBytes] using q
theorem low_at (d : Value) (cs : List Int32) (j : Nat) (h : j < cs.length) : (cs.map fun c => Value.int (lo8 c)).getD j d = .int (lo8 (cs.getD j 0)) := by
  simp [List.getD_eq_getElem?_getD, h]
/-- an array of N2 bytes vs codes the chars cs by the coder cd -/
def CodA (cs : List Int32) (cd N2 : Int32) (vs : List Value) : Prop := (cd = 0 ∧ N2 = Int32.ofNat cs.length ∧ vs = (cs.map fun c => Value.int (lo8 c)) ∧ ∀ c ∈ cs, ¬ 255 < c) ∨ (cd = 1 ∧ N2 = Int32.ofNat (2 * cs.length) ∧ vs = wideBytes cs ∧ ∃ c ∈ cs, 255 < c)
theorem CodA.cod {cs : List Int32} {cd N2 : Int32} {vs : List Value} {V : Cell} (h : CodA cs cd N2 vs) (hn : 2 * cs.length < 2 ^ 31) (hs : V.slots.size = N2.toNatClampNeg) (hv : RoadKit.Has V vs (.int 0)) : Cod cd cs.length (fun j => cs.getD j 0) V := by
  rcases h with ⟨rfl, rfl, rfl, h⟩ | ⟨rfl, rfl, rfl, c, hc, hw⟩
  · rw [n32 (by omega)] at hs
    exact Or.inl ⟨rfl, hs, fun j hj => ⟨by rw [hv j (by omega), low_at _ _ _ hj], by
      have e : cs.getD j 0 = cs[j] := by simp [List.getD_eq_getElem?_getD, hj]
      show ¬ 255 < cs.getD j 0
      rw [e]; exact h _ (List.getElem_mem _)⟩⟩
  · rw [n32 (by omega)] at hs
    obtain ⟨j, hj, rfl⟩ := List.getElem_of_mem hc
    exact Or.inr ⟨rfl, hs, fun j hj => ⟨by rw [hv _ (by omega), wide_lo _ _ _ hj], by rw [hv _ (by omega), wide_hi _ _ _ hj]⟩, j, hj, by
      have e : cs.getD j 0 = cs[j] := by simp [List.getD_eq_getElem?_getD, hj]
      show 255 < cs.getD j 0
      rw [e]; exact hw⟩
/-- an object of exactly java/lang/String, its two fields found: as the laws ask it -/
theorem strObj {Z U : State} {a0 : Array Value} {kI : Nat} (wi : (Jvm.Cond.instantiable ST kI).before a0 Z = true) (al : Z.vm.Alike U.vm) {x : Addr} {v0 c0 : Value} (E : RoadKit.Exa Z U.heap x ST) (V : RoadKit.Fld Z U.heap x ST "value" "[B" v0) (C : RoadKit.Fld Z U.heap x ST "coder" "B" c0) :
    ∃ (D : Cell) (fV fC : Field), Blank ST x D U ∧ Found ST "value" "[B" fV U ∧ Found ST "coder" "B" fC U ∧ D.slots[fV.slot]? = some v0 ∧ D.slots[fC.slot]? = some c0 ∧ RoadKit.slotOf Z ST "value" "[B" = fV.slot ∧ RoadKit.slotOf Z ST "coder" "B" = fC.slot := by
  obtain ⟨D, cfV, kV, iV, fV, hD, gV, stV, knV, obV, asV, slV⟩ := V
  obtain ⟨D', cfC, kC, iC, fC, hD', gC, stC, -, -, asC, slC⟩ := C
  cases hD.symm.trans hD'
  obtain ⟨D2, kD, e1, e2, e3, e4, e5⟩ := E
  cases hD.symm.trans e1
  obtain ⟨c2, k2, i1, i2, i3, -⟩ := Cond.instantiable_spec wi
  cases e2.symm.trans i1
  cases e3.symm.trans i2
  obtain ⟨kU, u1, u2⟩ := al.2.2 _ _ e3
  exact ⟨D, fV, fC, ⟨hD, ⟨knV, fun q hq => by rw [hq] at obV; cases obV⟩, by rw [al.findClass]; exact e2, kU, u1, by rw [u2]; exact i3, by rw [u2]; exact e5 i3⟩, ⟨SBG.found_only al ⟨cfV, kV, iV, gV⟩, stV⟩, ⟨SBG.found_only al ⟨cfC, kC, iC, gC⟩, stC⟩, slV, slC, by simp [RoadKit.slotOf, gV], by simp [RoadKit.slotOf, gC]⟩
theorem sta_is {Z U : State} (al : Z.vm.Alike U.vm) {C n d : String} {v : Value} (S : RoadKit.Sta Z U.heap C n d v) : StaticIs U C n d v := by
  obtain ⟨cfS, iS, kS, fS, st, cS, t1, t2, t3, t4, t5, t6, t7⟩ := S
  exact StaticIs.there (s := { Z with heap := U.heap }) ⟨cfS, iS, kS, fS, st, cS, t1, t2, t3, t4, t5, (fun q => by rw [q] at t6; cases t6), t7⟩ al rfl
/-- **length() OF SUCH A STRING** -/
theorem lenW {p : Program} {l : Launch} {e : Env} {R : Room} {s : State} {args : Array Value} {below : List Frame} {len W : Nat} {Z : State} {a0 : Array Value} {h : Heap} (hZ : Z.Warmed39 s.vm) (hw : ∀ d ∈ wordsLen, d.before a0 Z = true) {kI : Nat} (wi : (Jvm.Cond.instantiable ST kI).before a0 Z = true)
    {x t : Addr} {kb : ClassId} {cs : List Int32} {cd N2 z : Int32} {vs : List Value} (E : RoadKit.Exa Z h x ST) (V : RoadKit.Fld Z h x ST "value" "[B" (.ref t)) (C : RoadKit.Fld Z h x ST "coder" "B" (.int cd)) (K : RoadKit.Arv Z h t kb .byte N2 vs (.int 0)) (hc : CodA cs cd N2 vs) (hb : ∀ c ∈ cs, ¬ c < 0 ∧ ¬ (65535 : Int32) < c)
    (S : RoadKit.Sta Z h ST "COMPACT_STRINGS" "Z" (.int z)) (hz : ¬ z = 0) (l2 : cs.length ≤ 4000) (hfr : 2 ≤ R.frames) (hlo : W + 25 ≤ R.locals) :
    Back l R p e below s args (⟨"java/lang/String", "length", "()I"⟩ : MethodName) len W (fun P a => a = #[.ref x] ∧ P.U.heap = h ∧ P.cells + 0 ≤ R.cells ∧ P.slots + 0 ≤ R.slots)
      (fun P _ v B => ∃ L, (v = some (.int (Int32.ofNat cs.length)) ∧ L = [] ∧ B.U.heap = h) ∧ B.locs = P.locs ++ L ∧ B.cells = P.cells + 0 ∧ B.slots = P.slots + 0) := by
  obtain ⟨A, K1, K2, K3, K4, K5, K6⟩ := K
  have hcod := hc.cod (by omega) K3 K5
  intro m meth c P g ig mk a X hg hsize hdg hW hn hp'
  obtain ⟨rfl, rfl, r1, r2⟩ := hp'
  have al : Z.vm.Alike P.U.vm := hZ.alike.trans X.warmed.alike
  obtain ⟨D, fV, fC, hB, F1, F2, g1, g2, -, -⟩ := strObj wi al E V C
  have hx : Txt x t A cd cs.length (fun j => cs.getD j 0) P.U := ⟨⟨_, hB.2.2.1, D, hB.1, rfl, by cases q : D.vm <;> first | rfl | exact absurd q (hB.2.1.2 _)⟩, Has.of hB F1 g1, Has.of hB F2 g2, ⟨K1.1, State.isArrayOf_alike al K1.2.1, K1.2.2, by rcases hcod with ⟨-, q, -⟩ | ⟨-, q, -⟩ <;> omega⟩, hcod, fun j hj => by
    have e : cs.getD j 0 = cs[j] := by simp [List.getD_eq_getElem?_getD, hj]
    show ¬ cs.getD j 0 < 0 ∧ ¬ 65535 < cs.getD j 0
    rw [e]; exact hb _ (List.getElem_mem _)⟩
  obtain ⟨v, B, X', ⟨⟨hv, hh⟩, hl, hk, hs⟩, st⟩ := Len.pays x t A cd cs.length (fun j => cs.getD j 0) z (tabLen_of (movedLen hZ hw)) hfr hlo m meth c P g ig mk _ X hg hsize hdg hW hn ⟨r1, r2, rfl, hx, sta_is al S, hz⟩
  exact ⟨v, B, X', ⟨[], ⟨hv, rfl, hh⟩, hl, hk, hs⟩, st⟩
end StrChars.Road
namespace StrChars
open Jvm Sem ClassFile Op Lib Jvm.Stand Jvm.Free.XT Jvm.Free.ALB Jvm.Free.JM Jvm.Free
open Jvm.Lib.Cold (StaticIs)
namespace Emp
def yN : MethodName := ⟨"java/lang/String", "isEmpty", "()Z"⟩
abbrev yB : ByteArray := jdk_42_method_55_code
theorem d0 : decode yB 0 = .ok (.aload_n 0, 1) := by decide +kernel
theorem d1 : decode yB 1 = .ok (.getfield 9, 3) := by decide +kernel
theorem d4 : decode yB 4 = .ok (.arraylength, 1) := by decide +kernel
theorem d5 : decode yB 5 = .ok (.ifCond (.ne) 7, 3) := by decide +kernel
theorem d8 : decode yB 8 = .ok (.iconst 1, 1) := by decide +kernel
theorem d9 : decode yB 9 = .ok (.goto 4, 3) := by decide +kernel
theorem d12 : decode yB 12 = .ok (.iconst 0, 1) := by decide +kernel
theorem d13 : decode yB 13 = .ok (.ireturn, 1) := by decide +kernel
def site : List Cond := [.fieldLink "java/lang/String" 9 "java/lang/String" "value" "[B"]
def tab : Cond := tabOf yN yB 1 (some .boolean) site
def P (x t : Addr) (V : Cell) (cd : Int32) (n : Nat) (f : Nat → Int32) (args : Array Value) (s : State) : Prop := args = #[.ref x] ∧ Txt x t V cd n f s
def E (n : Nat) (r : Option Value) (s u : State) : Prop := XT.PureE (some (.int (if n = 0 then 1 else 0))) r s u
/-- isEmpty() of a String of n chars -/
theorem law (l : Launch) (x t : Addr) (V : Cell) (cd : Int32) (n : Nat) (f : Nat → Int32) : Law l yN 1 0 0 0 yB 1 (some .boolean) site (P x t V cd n f) (E n) [] 0 0 := by
  refine Law.of_walk (plainFor_of_name (by decide +kernel)) (by decide +kernel) (by decide +kernel) (by decide) (fun _ _ h => by rw [h.1]; rfl) (fun _ U U' hal hh h => ⟨h.1, h.2.mv hal hh⟩) (fun r U U' V V' h1 hal h2 h => XT.PureE.mv r U U' V V' h1 hal h2 h) ?_
  intro p e s m args below meth c s₁ X0 hexec hbytes hml hret hlk hnm hown hh0 W hP
  obtain ⟨rfl, hx⟩ := hP
  have v31 := hx.2.2.2.1.2.2.2
  have c1 : Steps p.tables e below (s₁.setTop (entryFrame m #[.ref x] 1)) (s₁.setTop (mkF m 1 #[.val (.ref x)] [.ref x])) := Steps.trans (entry rfl) (by
    show Steps p.tables e below (s₁.setTop (mkF m 0 #[.val (.ref x)] [])) _
    refine XS.aloadN X0.here hexec rfl (hb hbytes d0) rfl rfl ?_
    exact Steps.refl _)
  obtain ⟨T2, X2, q2, st2⟩ := X0.hget hexec hown (wk W (.fieldLink "java/lang/String" 9 "java/lang/String" "value" "[B")) (hx.mv X0.warmed.alike hh0).2.1 (g := (mkF m 1 #[.val (.ref x)] [.ref x])) rfl (rest := []) rfl (hb hbytes d1)
  have hh2 := q2.trans hh0
  have hx2 := hx.mv X2.warmed.alike hh2
  have c3 : Steps p.tables e below (s₁.setTop (entryFrame m #[.ref x] 1)) (T2.setTop (mkF m 5 #[.val (.ref x)] [.int (Int32.ofNat V.slots.size)])) := (c1.trans (st2 _ (Steps.refl _))).trans (by
    refine X2.alen hexec hx2.2.2.2.1 rfl rfl (hb hbytes d4) ?_
    exact Steps.refl _)
  have hz : V.slots.size = 0 ↔ n = 0 := by
    rcases hx.2.2.2.2.1 with ⟨-, q, -⟩ | ⟨-, q, -⟩ <;> omega
  by_cases h0 : n = 0
  · have c4 : Steps p.tables e below (s₁.setTop (entryFrame m #[.ref x] 1)) (T2.setTop (mkF m 13 #[.val (.ref x)] [.int 1])) := c3.trans (by
      refine XS.ifNo X2.here hexec rfl (hb hbytes d5) rfl (i0_ne_f (by rw [hz.mpr h0]; rfl)) ?_
      refine iconstV X2.here hexec rfl 1 (hb hbytes d8) (by decide) ?_
      refine XS.goto X2.here hexec rfl (pc0 := 9) rfl (hb hbytes d9) (by decide) rfl ?_
      exact Steps.refl _)
    exact ⟨T2, some (.int 1), _, _, _, X2, rfl, rfl, rfl, (fun h => by cases h), ⟨by rw [if_pos h0], hh2⟩, fun fs hl => c4.trans (X2.ireturnOut hexec hret rfl (Or.inr (Or.inl rfl)) (hb hbytes d13) hl)⟩
  · have c4 : Steps p.tables e below (s₁.setTop (entryFrame m #[.ref x] 1)) (T2.setTop (mkF m 13 #[.val (.ref x)] [.int 0])) := c3.trans (by
      refine XS.ifYes X2.here hexec rfl (pc0 := 5) rfl (hb hbytes d5) rfl (i0_ne_t (nz32 v31 (by omega))) (by decide) rfl ?_
      refine iconstV X2.here hexec rfl 0 (hb hbytes d12) (by decide) ?_
      exact Steps.refl _)
    exact ⟨T2, some (.int 0), _, _, _, X2, rfl, rfl, rfl, (fun h => by cases h), ⟨by rw [if_neg h0], hh2⟩, fun fs hl => c4.trans (X2.ireturnOut hexec hret rfl (Or.inr (Or.inl rfl)) (hb hbytes d13) hl)⟩
theorem pays {l : Launch} {R : Room} {p : Program} {e : Env} {below : List Frame} {s : State} {sargs : Array Value} {len W : Nat} (x t : Addr) (V : Cell) (cd : Int32) (n : Nat) (f : Nat → Int32) (htab : tab.before sargs s = true) (hfr : 1 ≤ R.frames) (hlo : W + 12 ≤ R.locals) :
    Back l R p e below s sargs yN len W (fun A₁ a₁ => A₁.cells + 0 ≤ R.cells ∧ A₁.slots + 0 ≤ R.slots ∧ P x t V cd n f a₁ A₁.U) (fun A₁ _ v₁ B₁ => E n v₁ A₁.U B₁.U ∧ B₁.locs = A₁.locs ++ [] ∧ B₁.cells = A₁.cells + 0 ∧ B₁.slots = A₁.slots + 0) :=
  (law l x t V cd n f).pays htab hfr (by omega)
end Emp
end StrChars
namespace StrChars.Road
open Jvm Sem ClassFile Op Lib Jvm.Stand Jvm.Free Jvm.Free.XT
open Jvm.Lib.Cold (StaticIs)
/-- the words of String.isEmpty() -/
abbrev wordsEmp : List Jvm.Cond := [.code Emp.yN Emp.yB 1 (some .boolean), .initialized ST, .fieldLink ST 9 ST "value" "[B"]
theorem tabEmp_of {a : Array Value} {s : State} (h : ∀ w ∈ wordsEmp, w.before a s = true) : Emp.tab.before a s = true := unparts (wk h (.code Emp.yN Emp.yB 1 (some .boolean))) (wks h (.initialized Emp.yN.cls :: Emp.site))
theorem movedEmp {Z s : State} {a0 args : Array Value} (hZ : Z.Warmed39 s.vm) (hw : ∀ d ∈ wordsEmp, d.before a0 Z = true) : ∀ d ∈ wordsEmp, d.before args s = true := fun d hd => by
  have t : ∀ d ∈ wordsEmp, (d.onTables && d.keepsFace) = true := by decide +kernel
  exact RoadKit.mv hZ (hw d hd) (t d hd)
/-- the road's facts of a String, as the laws ask it -/
theorem txt_of {Z U : State} {a0 : Array Value} {kI : Nat} (wi : (Jvm.Cond.instantiable ST kI).before a0 Z = true) (al : Z.vm.Alike U.vm) {x t : Addr} {kb : ClassId} {cs : List Int32} {cd N2 : Int32} {vs : List Value} (E : RoadKit.Exa Z U.heap x ST) (V : RoadKit.Fld Z U.heap x ST "value" "[B" (.ref t)) (C : RoadKit.Fld Z U.heap x ST "coder" "B" (.int cd)) (K : RoadKit.Arv Z U.heap t kb .byte N2 vs (.int 0)) (hc : CodA cs cd N2 vs) (hb : ∀ c ∈ cs, ¬ c < 0 ∧ ¬ (65535 : Int32) < c) (l2 : cs.length ≤ 4000) :
    ∃ A, Txt x t A cd cs.length (fun j => cs.getD j 0) U := by
  obtain ⟨A, K1, K2, K3, K4, K5, K6⟩ := K
  have hcod := hc.cod (by omega) K3 K5
  obtain ⟨D, fV, fC, hB, F1, F2, g1, g2, -, -⟩ := strObj wi al E V C
  exact ⟨A, ⟨_, hB.2.2.1, D, hB.1, rfl, by cases q : D.vm <;> first | rfl | exact absurd q (hB.2.1.2 _)⟩, Has.of hB F1 g1, Has.of hB F2 g2, ⟨K1.1, State.isArrayOf_alike al K1.2.1, K1.2.2, by rcases hcod with ⟨-, q, -⟩ | ⟨-, q, -⟩ <;> omega⟩, hcod, fun j hj => by
    have e : cs.getD j 0 = cs[j] := by simp [List.getD_eq_getElem?_getD, hj]
    show ¬ cs.getD j 0 < 0 ∧ ¬ 65535 < cs.getD j 0
    rw [e]; exact hb _ (List.getElem_mem _)⟩
/-- **isEmpty() OF SUCH A STRING** -/
theorem empW {p : Program} {l : Launch} {e : Env} {R : Room} {s : State} {args : Array Value} {below : List Frame} {len W : Nat} {Z : State} {a0 : Array Value} {h : Heap} (hZ : Z.Warmed39 s.vm) (hw : ∀ d ∈ wordsEmp, d.before a0 Z = true) {kI : Nat} (wi : (Jvm.Cond.instantiable ST kI).before a0 Z = true)
    {x t : Addr} {kb : ClassId} {cs : List Int32} {cd N2 : Int32} {vs : List Value} (E : RoadKit.Exa Z h x ST) (V : RoadKit.Fld Z h x ST "value" "[B" (.ref t)) (C : RoadKit.Fld Z h x ST "coder" "B" (.int cd)) (K : RoadKit.Arv Z h t kb .byte N2 vs (.int 0)) (hc : CodA cs cd N2 vs) (hb : ∀ c ∈ cs, ¬ c < 0 ∧ ¬ (65535 : Int32) < c) (l2 : cs.length ≤ 4000) (hfr : 1 ≤ R.frames) (hlo : W + 12 ≤ R.locals) :
    Back l R p e below s args (⟨"java/lang/String", "isEmpty", "()Z"⟩ : MethodName) len W (fun P a => a = #[.ref x] ∧ P.U.heap = h ∧ P.cells + 0 ≤ R.cells ∧ P.slots + 0 ≤ R.slots)
      (fun P _ v B => ∃ L, (v = some (.int (if cs.length = 0 then 1 else 0)) ∧ L = [] ∧ B.U.heap = h) ∧ B.locs = P.locs ++ L ∧ B.cells = P.cells + 0 ∧ B.slots = P.slots + 0) := by
  intro m meth c P g ig mk a X hg hsize hdg hW hn hp'
  obtain ⟨rfl, rfl, r1, r2⟩ := hp'
  have al : Z.vm.Alike P.U.vm := hZ.alike.trans X.warmed.alike
  obtain ⟨A, hx⟩ := txt_of wi al E V C K hc hb l2
  obtain ⟨v, B, X', ⟨⟨hv, hh⟩, hl, hk, hs⟩, st⟩ := Emp.pays x t A cd cs.length (fun j => cs.getD j 0) (tabEmp_of (movedEmp hZ hw)) hfr hlo m meth c P g ig mk _ X hg hsize hdg hW hn ⟨r1, r2, rfl, hx⟩
  exact ⟨v, B, X', ⟨[], ⟨hv, rfl, hh⟩, hl, hk, hs⟩, st⟩
end StrChars.Road
namespace StrChars
open Jvm Sem ClassFile Op Lib Jvm.Stand Jvm.Free.XT Jvm.Free.ALB Jvm.Free.JM Jvm.Free
open Jvm.Lib.Cold (StaticIs)
namespace ChN
def yN : MethodName := ⟨"java/lang/String", "charAt", "(I)C"⟩
abbrev yB : ByteArray := jdk_42_method_56_code
theorem d0 : decode yB 0 = .ok (.aload_n 0, 1) := by decide +kernel
theorem d1 : decode yB 1 = .ok (.invokevirtual 492, 3) := by decide +kernel
theorem d4 : decode yB 4 = .ok (.ifCond (.eq) 12, 3) := by decide +kernel
theorem d7 : decode yB 7 = .ok (.aload_n 0, 1) := by decide +kernel
theorem d8 : decode yB 8 = .ok (.getfield 9, 3) := by decide +kernel
theorem d11 : decode yB 11 = .ok (.iload_n 1, 1) := by decide +kernel
theorem d12 : decode yB 12 = .ok (.invokestatic 495, 3) := by decide +kernel
theorem d15 : decode yB 15 = .ok (.ireturn, 1) := by decide +kernel
def site : List Cond := [.fieldLink "java/lang/String" 9 "java/lang/String" "value" "[B", IsL.tab, LChA.tab] ++ virtW "java/lang/String" 492 "java/lang/String" IsL.yN IsL.yN ++ staticW "java/lang/String" 495 LChA.yN
def tab : Cond := tabOf yN yB 2 (some .char) site
def P (x t : Addr) (V : Cell) (n : Nat) (f : Nat → Int32) (z : Int32) (fm : Value) (i : Nat) (args : Array Value) (s : State) : Prop := args = #[.ref x, .int (Int32.ofNat i)] ∧ Txt x t V 0 n f s ∧ i < n ∧ StaticIs s "java/lang/String" "COMPACT_STRINGS" "Z" (.int z) ∧ ¬ z = 0 ∧ StaticIs s "jdk/internal/util/Preconditions" "SIOOBE_FORMATTER" "Ljava/util/function/BiFunction;" fm ∧ fm.isRef = true
def E (f : Nat → Int32) (i : Nat) (r : Option Value) (s u : State) : Prop := XT.PureE (some (.int (f i))) r s u
/-- charAt(i) of a Latin-1 String of n chars, i < n: f i -/
theorem law (l : Launch) (x t : Addr) (V : Cell) (n : Nat) (f : Nat → Int32) (z : Int32) (fm : Value) (i : Nat) : Law l yN 2 1 3 40 yB 2 (some .char) site (P x t V n f z fm i) (E f i) [] 0 0 := by
  refine Law.of_walk (plainFor_of_name (by decide +kernel)) (by decide +kernel) (by decide +kernel) (by decide) (fun _ _ h => by rw [h.1]; rfl) (fun _ U U' hal hh h => ⟨h.1, h.2.1.mv hal hh, h.2.2.1, h.2.2.2.1.there hal hh, h.2.2.2.2.1, h.2.2.2.2.2.1.there hal hh, h.2.2.2.2.2.2⟩) (fun r U U' V V' h1 hal h2 h => XT.PureE.mv r U U' V V' h1 hal h2 h) ?_
  intro p e s m args below meth c s₁ X0 hexec hbytes hml hret hlk hnm hown hh0 W hP
  obtain ⟨rfl, hx, hi, s1, hz, s3, rf⟩ := hP
  have v31 := hx.2.2.2.1.2.2.2
  have hr := hx.2.2.2.2.2 i hi
  have hx0 := hx.mv X0.warmed.alike hh0
  have c1 : Steps p.tables e below (s₁.setTop (entryFrame m #[.ref x, .int (Int32.ofNat i)] 2)) (s₁.setTop (mkF m 1 #[.val (.ref x), .val (.int (Int32.ofNat i))] [.ref x])) := Steps.trans (entry rfl) (by
    show Steps p.tables e below (s₁.setTop (mkF m 0 #[.val (.ref x), .val (.int (Int32.ofNat i))] [])) _
    refine XS.aloadN X0.here hexec rfl (hb hbytes d0) rfl rfl ?_
    exact Steps.refl _)
  obtain ⟨v2, T2, X2, E2, g2⟩ := X0.callV hexec (IsL.law l x 0 z) hown (wks W (virtW "java/lang/String" 492 "java/lang/String" IsL.yN IsL.yN)) rfl (by decide) (wk W IsL.tab) (W := 0) (Nat.le_of_ble_eq_true rfl) (Nat.le_of_ble_eq_true rfl) (Nat.le_refl _) (Nat.le_refl _) (hx0.1.fc X0.warmed.alike) hx0.1.is (g := (mkF m 1 #[.val (.ref x), .val (.int (Int32.ofNat i))] [.ref x])) rfl (by rw [hml]; rfl) c1 (argsL := []) (rest := []) rfl rfl (by show 2 * 0 + 0 ≤ _; decide) (hb hbytes d1) (⟨rfl, hx0.2.2.1, hx.2.2.2.2.1.cd, s1.there X0.warmed.alike hh0, hz⟩)
  obtain ⟨rfl, q2⟩ := E2
  have hh2 := q2.trans hh0
  have hx2 := hx.mv X2.warmed.alike hh2
  obtain ⟨-, k1, k2⟩ | ⟨k0, -⟩ := hx.2.2.2.2.1
  · have c3 : Steps p.tables e below (s₁.setTop (entryFrame m #[.ref x, .int (Int32.ofNat i)] 2)) (T2.setTop (mkF m 8 #[.val (.ref x), .val (.int (Int32.ofNat i))] [.ref x])) := Steps.trans g2 (by
      refine XS.ifNo X2.here hexec rfl (hb hbytes d4) rfl (i0_eq_f (by decide)) ?_
      refine XS.aloadN X2.here hexec rfl (hb hbytes d7) rfl rfl ?_
      exact Steps.refl _)
    obtain ⟨T4, X4, q4, st4⟩ := X2.hget hexec hown (wk W (.fieldLink "java/lang/String" 9 "java/lang/String" "value" "[B")) hx2.2.1 (g := (mkF m 8 #[.val (.ref x), .val (.int (Int32.ofNat i))] [.ref x])) rfl (rest := []) rfl (hb hbytes d8)
    have hh4 := q4.trans hh2
    have c5 : Steps p.tables e below (s₁.setTop (entryFrame m #[.ref x, .int (Int32.ofNat i)] 2)) (T4.setTop (mkF m 12 #[.val (.ref x), .val (.int (Int32.ofNat i))] [.int (Int32.ofNat i), .ref t])) := (c3.trans (st4 _ (Steps.refl _))).trans (by
      refine XS.iloadN X4.here hexec rfl (hb hbytes d11) rfl ?_
      exact Steps.refl _)
    obtain ⟨v6, T6, X6, E6, g6⟩ := X4.callS hexec (LChA.law l t V i (lo8 (f i)) fm) hown (wks W (staticW "java/lang/String" 495 LChA.yN)) (wk W LChA.tab) (W := 0) (Nat.le_of_ble_eq_true rfl) (Nat.le_of_ble_eq_true rfl) (Nat.le_refl _) (Nat.le_refl _) (g := (mkF m 12 #[.val (.ref x), .val (.int (Int32.ofNat i))] [.int (Int32.ofNat i), .ref t])) rfl (by rw [hml]; rfl) c5 (argsL := [.ref t, .int (Int32.ofNat i)]) (rest := []) rfl rfl (by show 2 * 0 + 0 ≤ _; decide) (hb hbytes d12) (⟨rfl, hx.2.2.2.1.mv X4.warmed.alike hh4, (k2 i hi).1, s3.there X4.warmed.alike hh4, rf⟩)
    obtain ⟨rfl, q6⟩ := E6
    rw [chr8_lo8 hr.1 (k2 i hi).2] at g6
    exact ⟨T6, some (.int (f i)), _, _, _, X6, rfl, rfl, rfl, (fun h => by cases h), ⟨rfl, q6.trans hh4⟩, fun fs hl => Steps.trans g6 (X6.ireturnOut hexec hret (narrow_ch hr.1 hr.2) (Or.inr (Or.inr (Or.inr (Or.inl rfl)))) (hb hbytes d15) hl)⟩
  · exact absurd k0 (by decide)
theorem pays {l : Launch} {R : Room} {p : Program} {e : Env} {below : List Frame} {s : State} {sargs : Array Value} {len W : Nat} (x t : Addr) (V : Cell) (n : Nat) (f : Nat → Int32) (z : Int32) (fm : Value) (i : Nat) (htab : tab.before sargs s = true) (hfr : 4 ≤ R.frames) (hlo : W + 53 ≤ R.locals) :
    Back l R p e below s sargs yN len W (fun A₁ a₁ => A₁.cells + 0 ≤ R.cells ∧ A₁.slots + 0 ≤ R.slots ∧ P x t V n f z fm i a₁ A₁.U) (fun A₁ _ v₁ B₁ => E f i v₁ A₁.U B₁.U ∧ B₁.locs = A₁.locs ++ [] ∧ B₁.cells = A₁.cells + 0 ∧ B₁.slots = A₁.slots + 0) :=
  (law l x t V n f z fm i).pays htab hfr (by omega)
end ChN
end StrChars
namespace StrChars.Road
open Jvm Sem ClassFile Op Lib Jvm.Stand Jvm.Free Jvm.Free.XT
open Jvm.Lib.Cold (StaticIs)
/-- the words of String.charAt(int), the Latin-1 road alone -/
abbrev wordsChN : List Jvm.Cond := [.code ChN.yN ChN.yB 2 (some .char), .initialized ST, .fieldLink ST 9 ST "value" "[B", .fieldLink ST 38 ST "COMPACT_STRINGS" "Z", .fieldLink ST 15 ST "coder" "B", .code IsL.yN IsL.yB 1 (some .boolean), .methodLink ST 492 IsL.yN, .declares IsL.yN, .selects ST IsL.yN IsL.yN, .instanceMethod IsL.yN,
  .methodLink ST 495 LChA.yN, .static LChA.yN, .code LChA.yN LChA.yB 2 (some .char), .initialized "java/lang/StringLatin1", .methodLink "java/lang/StringLatin1" 9 JO.Str_checkIndex.yN, .static JO.Str_checkIndex.yN, .code JO.Str_checkIndex.yN JO.Str_checkIndex.yB 2 none,
  .fieldLink ST 1053 "jdk/internal/util/Preconditions" "SIOOBE_FORMATTER" "Ljava/util/function/BiFunction;", .methodLink ST 1059 JC.PreCheck.yN, .static JC.PreCheck.yN, .code JC.PreCheck.yN JC.PreCheck.yB 3 (some .int), .initialized "jdk/internal/util/Preconditions"]
theorem tabChN_of {a : Array Value} {s : State} (h : ∀ w ∈ wordsChN, w.before a s = true) : ChN.tab.before a s = true := by
  have hp : JC.PreCheck.tab.before a s = true := unparts (wk h (.code JC.PreCheck.yN JC.PreCheck.yB 3 (some .int))) (wks h (.initialized JC.PreCheck.yN.cls :: JC.PreCheck.site))
  have qk := consq hp h
  have hk : JO.Str_checkIndex.tab.before a s = true := unparts (wk qk (.code JO.Str_checkIndex.yN JO.Str_checkIndex.yB 2 none)) (wks qk (.initialized JO.Str_checkIndex.yN.cls :: JO.Str_checkIndex.site))
  have ql := consq hk h
  have hl : LChA.tab.before a s = true := unparts (wk ql (.code LChA.yN LChA.yB 2 (some .char))) (wks ql (.initialized LChA.yN.cls :: LChA.site))
  have hi : IsL.tab.before a s = true := unparts (wk h (.code IsL.yN IsL.yB 1 (some .boolean))) (wks h (.initialized IsL.yN.cls :: IsL.site))
  have q := consq hi (consq hl h)
  exact unparts (wk q (.code ChN.yN ChN.yB 2 (some .char))) (wks q (.initialized ChN.yN.cls :: ChN.site))
theorem movedChN {Z s : State} {a0 args : Array Value} (hZ : Z.Warmed39 s.vm) (hw : ∀ d ∈ wordsChN, d.before a0 Z = true) : ∀ d ∈ wordsChN, d.before args s = true := fun d hd => by
  have t : ∀ d ∈ wordsChN, (d.onTables && d.keepsFace) = true := by decide +kernel
  exact RoadKit.mv hZ (hw d hd) (t d hd)
/-- **charAt(i) OF A LATIN-1 STRING**, i < n: the char -/
theorem chN {p : Program} {l : Launch} {e : Env} {R : Room} {s : State} {args : Array Value} {below : List Frame} {len W : Nat} {Z : State} {a0 : Array Value} {h : Heap} (hZ : Z.Warmed39 s.vm) (hw : ∀ d ∈ wordsChN, d.before a0 Z = true) {kI : Nat} (wi : (Jvm.Cond.instantiable ST kI).before a0 Z = true)
    {x t : Addr} {kb : ClassId} {cs : List Int32} {N2 z : Int32} {vs : List Value} {fm : Value} {i : Nat} {j : Int32} (E : RoadKit.Exa Z h x ST) (V : RoadKit.Fld Z h x ST "value" "[B" (.ref t)) (C : RoadKit.Fld Z h x ST "coder" "B" (.int 0)) (K : RoadKit.Arv Z h t kb .byte N2 vs (.int 0)) (hc : CodA cs 0 N2 vs) (hb : ∀ c ∈ cs, ¬ c < 0 ∧ ¬ (65535 : Int32) < c)
    (S : RoadKit.Sta Z h ST "COMPACT_STRINGS" "Z" (.int z)) (hz : ¬ z = 0) (F : RoadKit.Sta Z h "jdk/internal/util/Preconditions" "SIOOBE_FORMATTER" "Ljava/util/function/BiFunction;" fm) (rf : fm.isRef = true) (l2 : cs.length ≤ 4000) (hi : i < cs.length) (hj : j = Int32.ofNat i) (hfr : 4 ≤ R.frames) (hlo : W + 53 ≤ R.locals) :
    Back l R p e below s args (⟨"java/lang/String", "charAt", "(I)C"⟩ : MethodName) len W (fun P a => a = #[.ref x, .int j] ∧ P.U.heap = h ∧ P.cells + 0 ≤ R.cells ∧ P.slots + 0 ≤ R.slots)
      (fun P _ v B => ∃ L, (v = some (.int (cs.getD i 0)) ∧ L = [] ∧ B.U.heap = h) ∧ B.locs = P.locs ++ L ∧ B.cells = P.cells + 0 ∧ B.slots = P.slots + 0) := by
  subst hj
  intro m meth c P g ig mk a X hg hsize hdg hW hn hp'
  obtain ⟨rfl, rfl, r1, r2⟩ := hp'
  have al : Z.vm.Alike P.U.vm := hZ.alike.trans X.warmed.alike
  obtain ⟨A, hx⟩ := txt_of wi al E V C K hc hb l2
  obtain ⟨v, B, X', ⟨⟨hv, hh⟩, hl, hk, hs⟩, st⟩ := ChN.pays x t A cs.length (fun j => cs.getD j 0) z fm i (tabChN_of (movedChN hZ hw)) hfr hlo m meth c P g ig mk _ X hg hsize hdg hW hn ⟨r1, r2, rfl, hx, hi, sta_is al S, hz, sta_is al F, rf⟩
  exact ⟨v, B, X', ⟨[], ⟨hv, rfl, hh⟩, hl, hk, hs⟩, st⟩
/-- what backV says of its String, as the contracts of this text ask it: cs's low bytes, coder 0 -/
theorem codOf {cs : List Int32} {n : Nat} (hn : cs.length = n) (hb : ∀ c ∈ cs, ¬ 255 < c) : CodA cs 0 (Int32.ofNat n) ((cs.map lo8).map Value.int) := Or.inl ⟨rfl, by rw [hn], by simp [List.map_map, Function.comp_def], hb⟩
end StrChars.Road
end Jvm.Pilot.@@N@@
namespace Jvm.Pilot.@@N@@
open Jvm Jvm.ClassFile Sem Op Lib Jvm.Free Jvm.Stand Jvm.LawKit Jvm.RoadKit Bundle Jvm.Pilot.@@N@@.Jvm.D
/-- a run from here that ends well -/
def own_G (p : Program) (e : Env) (below : List Frame) (P : Outcome → State → Prop) (S : State) : Prop := ∃ s₂ o, Steps p.tables e below S s₂ ∧ s₂.status = .running ∧ Ended s₂ below o ∧ P o s₂
theorem own_go {p : Program} {e : Env} {below : List Frame} {P : Outcome → State → Prop} {S : State} (S' : State) (k : ∀ t, Steps p.tables e below S' t → Steps p.tables e below S t) (h : own_G p e below P S') : own_G p e below P S := by
  obtain ⟨s₂, o, h1, h2⟩ := h
  exact ⟨s₂, o, k _ h1, h2⟩
theorem own_one {x : Slot} (h : One x) : (match x with | .second => False | .val old => old.category = 1 | .unset => True) := by
  rcases h with rfl | ⟨w, rfl, hw⟩
  · trivial
  · exact hw
theorem own_selp {s : State} {args : Array Value} {D : String} {y z : MethodName} (h : (Cond.selects D z z).before args s = true) (hc : z.cls = y.cls) (hpriv : s.PrivateAt y) (hinst : (Cond.instanceMethod y).before args s = true) (hy : y.cls ≠ "java/lang/invoke/MethodHandle" ∧ y.cls ≠ "java/lang/invoke/VarHandle") : (Cond.selects y.cls y y).before args s = true := by
  obtain ⟨c, r, m, q1, q2, q3, q4, mk, hk, hi⟩ := Cond.selects_spec h
  exact selects_self_of_private (hc ▸ findClass_of_methodNamed q3) hk hi hpriv hinst hy
theorem own_same {s : State} {args : Array Value} {D : String} {y z : MethodName} (hinst : (Cond.instanceMethod y).before args s = true) (hsel : (Cond.selects D z z).before args s = true) (hc : z.cls = y.cls) (hy : y.cls ≠ "java/lang/invoke/MethodHandle" ∧ y.cls ≠ "java/lang/invoke/VarHandle") : (Cond.sameMethod y.cls y.cls y.name y.desc).before args s = true := by
  obtain ⟨mk, methM, hnamed, hmethM, -, -⟩ := Cond.instanceMethod_spec hinst
  obtain ⟨c, r, m, q1, q2, q3, q4, k, hk, hi⟩ := Cond.selects_spec hsel
  have hfound := State.methodFound?_of_named hnamed hy
  have hcn := findClass_of_methodNamed hnamed
  have e : m.cls = mk.cls := Option.some.inj ((findClass_of_methodNamed q3).symm.trans (hc ▸ hcn))
  rw [e] at hk
  obtain ⟨yc, yn, yd⟩ := y
  simp_all [Cond.before, Cond.holds, Cond.value]
theorem own_nf {s : State} {args : Array Value} {D : String} {y z : MethodName} (hsel : (Cond.selects D z z).before args s = true) (hc : z.cls = y.cls) : NotFace s y := fun r0 h0 => by
  obtain ⟨c, r, m, q1, q2, q3, q4, k, hk, hi⟩ := Cond.selects_spec hsel
  have e : m.cls = r0.cls := Option.some.inj ((findClass_of_methodNamed q3).symm.trans (hc ▸ findClass_of_methodNamed h0))
  exact ⟨k, e ▸ hk, hi⟩
theorem own_lt {x y : Int64} : lcmpW x y < 0 ↔ x < y := by rw [lcW]; exact lc_lt x y
theorem own_gt {x y : Int64} : (0 : Int32) < lcmpW x y ↔ y < x := by rw [lcW]; exact lc_gt x y
theorem own_eq {x y : Int64} : lcmpW x y = 0 ↔ x = y := by rw [lcW]; exact lc_eq x y
theorem own_extK {Z : State} {h h' : Heap} {ws : List Addr} (O : Ext Z.heap h) (K : Keep h h' ws) (q : ∀ x ∈ ws, Z.heap.size ≤ x) : Ext Z.heap h' :=
  (Old.keep (n0 := Z.heap.size) ⟨rfl, O⟩ K q).2
theorem own_ext {h h1 h2 : Heap} (E : Ext h h1) (F : Ext h1 h2) : Ext h h2 := ⟨Nat.le_trans E.1 F.1, fun a c q => F.2 a c (E.2 a c q)⟩
theorem own_extW {Z : State} {h h' : Heap} {a : Addr} {sl : Nat} {v : Value} (O : Ext Z.heap h) (W : Wr h h' a sl v) (q : Z.heap.size ≤ a) : Ext Z.heap h' := own_extK O (Keep.of_wr W) (allS q all0)
theorem own_fldI {s : State} {args : Array Value} {t : Term} {C n d : String} {k : Int32} {a : Addr} (h : (Cond.eq (Term.field t C n d) (Term.int k)).value args s none s [] = some true) (ev : t.eval args s none [] s = some (.ref a)) : Fld s s.heap a C n d (.int k) := by
  obtain ⟨x, y, h1, h2, h3, -⟩ := cmp_v (Or.inl h)
  have h4 : s.fieldOf? a C n d = some x := (fld_at ev).symm.trans h1
  have h5 : y = .int k := (Option.some.inj (h2.symm.trans (Term.int_eval k)))
  subst h5
  cases x with
  | int z =>
    simp only [Cond.value, h1, h2] at h
    have e : z = k := by simpa using h
    subst e
    exact Fld.start h4
  | _ => simp [Kin, Value.isRef] at h3
theorem own_fldV {s : State} {args : Array Value} {t u : Term} {C n d : String} {b : Addr} {a : Addr} (h : (Cond.eq (Term.field t C n d) u).value args s none s [] = some true) (ev : t.eval args s none [] s = some (.ref a)) (eu : u.eval args s none [] s = some (.ref b)) : Fld s s.heap a C n d (.ref b) := by
  obtain ⟨x, y, h1, h2, h3, -⟩ := cmp_v (Or.inl h)
  have h4 : s.fieldOf? a C n d = some x := (fld_at ev).symm.trans h1
  have h5 : y = .ref b := (Option.some.inj (h2.symm.trans eu))
  subst h5
  cases x with
  | ref z =>
    simp only [Cond.value, h1, h2] at h
    have e : z = b := by simpa using h
    subst e
    exact Fld.start h4
  | null => simp [Cond.value, h1, h2] at h
  | _ => simp [Kin, Value.isRef] at h3
theorem own_elemI {s : State} {args : Array Value} {t : Term} {j k : Int32} {a : Addr} {cl : Cell} (h : (Cond.eq (Term.elem t (Term.int j)) (Term.int k)).value args s none s [] = some true) (ev : t.eval args s none [] s = some (.ref a)) (hc : s.heap[a]? = some cl) : ¬ (j < 0 ∨ cl.slots.size ≤ j.toNatClampNeg) ∧ cl.slots[j.toNatClampNeg]? = some (.int k) := by
  obtain ⟨x, y, h1, h2, h3, -⟩ := cmp_v (Or.inl h)
  have h4 := elem_in h1 ev (Term.int_eval j) hc
  have h5 : y = .int k := (Option.some.inj (h2.symm.trans (Term.int_eval k)))
  subst h5
  cases x with
  | int z =>
    simp only [Cond.value, h1, h2] at h
    have e : z = k := by simpa using h
    subst e
    exact h4
  | _ => simp [Kin, Value.isRef] at h3
theorem own_elemV {s : State} {args : Array Value} {t u : Term} {j : Int32} {a b : Addr} {cl : Cell} (h : (Cond.eq (Term.elem t (Term.int j)) u).value args s none s [] = some true) (ev : t.eval args s none [] s = some (.ref a)) (eu : u.eval args s none [] s = some (.ref b)) (hc : s.heap[a]? = some cl) : ¬ (j < 0 ∨ cl.slots.size ≤ j.toNatClampNeg) ∧ cl.slots[j.toNatClampNeg]? = some (.ref b) := by
  obtain ⟨x, y, h1, h2, h3, -⟩ := cmp_v (Or.inl h)
  have h4 := elem_in h1 ev (Term.int_eval j) hc
  have h5 : y = .ref b := (Option.some.inj (h2.symm.trans eu))
  subst h5
  cases x with
  | ref z =>
    simp only [Cond.value, h1, h2] at h
    have e : z = b := by simpa using h
    subst e
    exact h4
  | null => simp [Cond.value, h1, h2] at h
  | _ => simp [Kin, Value.isRef] at h3
theorem own_fldN {s : State} {args : Array Value} {t : Term} {C n d : String} {a : Addr} (h : (Cond.eq (Term.field t C n d) Term.null).value args s none s [] = some true) (ev : t.eval args s none [] s = some (.ref a)) : Fld s s.heap a C n d .null :=
  Fld.start ((fld_at ev).symm.trans (null_v h))
def own_W (Z : State) (cs0 : Int32) (sf0 : Value) : Prop := (Sta Z Z.heap "java/lang/String" "COMPACT_STRINGS" "Z" (.int cs0)) ∧ (¬ cs0 = (0 : Int32)) ∧ (Sta Z Z.heap "jdk/internal/util/Preconditions" "SIOOBE_FORMATTER" "Ljava/util/function/BiFunction;" sf0) ∧ (sf0.isRef = true)
theorem own_case {i : Int32} {k : Int} (c : Int32) (h : i.toInt = k) (hc : c.toInt = k) : i = c := Int32.toInt_inj.mp (h.trans hc.symm)
theorem own_mask (x : Int32) : 0 ≤ (x &&& 2147483647).toInt := by
  have e := Jvm.Kit.i32_mask x 2147483647 (k := 31) (by decide) (by decide)
  omega
theorem own_mod (x n : Int32) (hn : 0 < n.toInt) : 0 ≤ ((x &&& 2147483647) % n).toInt ∧ ((x &&& 2147483647) % n).toInt < n.toInt := by
  rw [Jvm.Kit.i32_rem_nonneg (own_mask x)]
  exact ⟨Int.emod_nonneg _ (by omega), Int.emod_lt_of_pos _ hn⟩
theorem own_and3 (x : Int32) : (x &&& 3) = 0 ∨ (x &&& 3) = 1 ∨ (x &&& 3) = 2 ∨ (x &&& 3) = 3 := by
  have e := Jvm.Kit.i32_mask x 3 (k := 2) (by decide) (by decide)
  rcases (by omega : (x &&& 3).toInt = 0 ∨ (x &&& 3).toInt = 1 ∨ (x &&& 3).toInt = 2 ∨ (x &&& 3).toInt = 3) with q | q | q | q
  · exact Or.inl (own_case 0 q (by decide))
  · exact Or.inr (Or.inl (own_case 1 q (by decide)))
  · exact Or.inr (Or.inr (Or.inl (own_case 2 q (by decide))))
  · exact Or.inr (Or.inr (Or.inr (own_case 3 q (by decide))))
theorem own_words : ∀ d ∈ StrChars.Road.words, d ∈ tables_1 := by decide +kernel
theorem own_wordsLen : ∀ d ∈ StrChars.Road.wordsLen, d ∈ tables_1 := by decide +kernel
theorem own_wordsChN : ∀ d ∈ StrChars.Road.wordsChN, d ∈ tables_1 := by decide +kernel
theorem own_wordsEmp : ∀ d ∈ StrChars.Road.wordsEmp, d ∈ tables_1 := by decide +kernel
theorem own_i2c (x : Int32) : nar .char ((x &&& (255 : Int32)).toUInt32.toUInt16.toUInt32.toInt32) = x &&& 255 := by
  rw [i2c_mask]
  exact i2c_mask x
theorem own_byte (x : Int32) : ¬ (x &&& 255) < 0 ∧ ¬ (255 : Int32) < (x &&& 255) := by
  have e := Jvm.Kit.i32_mask x 255 (k := 8) (by decide) (by decide)
  have e0 : (0 : Int32).toInt = 0 := by decide
  have e1 : (255 : Int32).toInt = 255 := by decide
  constructor <;> (intro q; rw [Int32.lt_iff_toInt_lt] at q; omega)
theorem own_c255 (x : Int32) : ¬ nar .char ((x &&& (255 : Int32)).toUInt32.toUInt16.toUInt32.toInt32) < 0 ∧ ¬ (255 : Int32) < nar .char ((x &&& (255 : Int32)).toUInt32.toUInt16.toUInt32.toInt32) := by
  rw [own_i2c]
  exact own_byte x
theorem own_all0 {P : Int32 → Prop} : ∀ c ∈ ([] : List Int32), P c := fun _ q => nomatch q
theorem own_allS {P : Int32 → Prop} {y : Int32} {L : List Int32} (q : P y) (r : ∀ c ∈ L, P c) : ∀ c ∈ y :: L, P c := fun c z => (List.mem_cons.mp z).elim (fun u => u ▸ q) (r c)
theorem own_sA : ∀ d ∈ Bundle.stringAtoms, d ∈ tables_1 := by decide +kernel
theorem own_EW {Z : State} {a0 : Array Value} (hw : ∀ d ∈ tables_1, d.before a0 Z = true) : EW Z a0 consts_1 := (EW.cons (hw _ (List.mem_of_getElem? (i := 39) rfl)) (by decide) (EW.cons (hw _ (List.mem_of_getElem? (i := 106) rfl)) (by decide) EW.nil))
def own_ok (c : Int32) : Prop := (¬ c < 97 ∧ ¬ 122 < c) ∨ (¬ c < 48 ∧ ¬ 57 < c ∧ c < 97) ∨ c = 95
instance (c : Int32) : Decidable (own_ok c) := by unfold own_ok; infer_instance
theorem own_up (cs : List Int32) (h : ∀ c ∈ cs, ¬ c < 0 ∧ ¬ (255 : Int32) < c) : ∀ c ∈ cs, ¬ c < 0 ∧ ¬ (65535 : Int32) < c := fun c hc => ⟨(h c hc).1, fun q => (h c hc).2 (by
  rw [Int32.lt_iff_toInt_lt] at q ⊢
  have e1 : (65535 : Int32).toInt = 65535 := by decide
  have e2 : (255 : Int32).toInt = 255 := by decide
  omega)⟩
theorem own_okb (c : Int32) (h : own_ok c) : ¬ c < 0 ∧ ¬ (255 : Int32) < c := by
  have e0 : (0 : Int32).toInt = 0 := by decide
  have e1 : (255 : Int32).toInt = 255 := by decide
  have e2 : (97 : Int32).toInt = 97 := by decide
  have e3 : (122 : Int32).toInt = 122 := by decide
  have e4 : (48 : Int32).toInt = 48 := by decide
  have e5 : (57 : Int32).toInt = 57 := by decide
  have e6 : (95 : Int32).toInt = 95 := by decide
  rcases h with h | h | rfl
  · rw [Int32.lt_iff_toInt_lt, Int32.lt_iff_toInt_lt] at h; constructor <;> rw [Int32.lt_iff_toInt_lt] <;> omega
  · rw [Int32.lt_iff_toInt_lt, Int32.lt_iff_toInt_lt, Int32.lt_iff_toInt_lt] at h; constructor <;> rw [Int32.lt_iff_toInt_lt] <;> omega
  · constructor <;> decide
theorem own_get (cs : List Int32) (h : ∀ c ∈ cs, own_ok c) (i : Nat) (hi : i < cs.length) : own_ok (cs.getD i 0) := by
  have e : cs.getD i 0 = cs[i] := by simp [List.getD_eq_getElem?_getD, hi]
  rw [e]; exact h _ (List.getElem_mem _)
theorem own_idx (i n : Nat) (h : n ≤ 4000) (hi : i < n) : Int32.ofNat i < Int32.ofNat n := by
  rw [Int32.lt_iff_toInt_lt, Int32.toInt_ofNat_small (by omega), Int32.toInt_ofNat_small (by omega)]; omega
theorem own_end (n : Nat) : ¬ Int32.ofNat n < Int32.ofNat n := by rw [Int32.lt_iff_toInt_lt]; omega
theorem own_next (i : Nat) : Int32.ofNat i + 1 = Int32.ofNat (i + 1) := by simp [Int32.ofNat_add]
theorem own_len64 (n : Nat) (h : n ≤ 64) : ¬ (64 : Int32) < Int32.ofNat n := by
  have e : (64 : Int32).toInt = 64 := by decide
  rw [Int32.lt_iff_toInt_lt, Int32.toInt_ofNat_small (by omega), e]; omega
theorem own_chA (k : Int32) (h0 : 0 ≤ k.toInt) (h1 : k.toInt < 26) : own_ok (nar .char ((97 + k).toUInt32.toUInt16.toUInt32.toInt32)) := by
  rcases (by omega : k.toInt = 0 ∨ k.toInt = 1 ∨ k.toInt = 2 ∨ k.toInt = 3 ∨ k.toInt = 4 ∨ k.toInt = 5 ∨ k.toInt = 6 ∨ k.toInt = 7 ∨ k.toInt = 8 ∨ k.toInt = 9 ∨ k.toInt = 10 ∨ k.toInt = 11 ∨ k.toInt = 12 ∨ k.toInt = 13 ∨ k.toInt = 14 ∨ k.toInt = 15 ∨ k.toInt = 16 ∨ k.toInt = 17 ∨ k.toInt = 18 ∨ k.toInt = 19 ∨ k.toInt = 20 ∨ k.toInt = 21 ∨ k.toInt = 22 ∨ k.toInt = 23 ∨ k.toInt = 24 ∨ k.toInt = 25) with q | q | q | q | q | q | q | q | q | q | q | q | q | q | q | q | q | q | q | q | q | q | q | q | q | q
  · obtain rfl := own_case 0 q (by decide)
    decide
  · obtain rfl := own_case 1 q (by decide)
    decide
  · obtain rfl := own_case 2 q (by decide)
    decide
  · obtain rfl := own_case 3 q (by decide)
    decide
  · obtain rfl := own_case 4 q (by decide)
    decide
  · obtain rfl := own_case 5 q (by decide)
    decide
  · obtain rfl := own_case 6 q (by decide)
    decide
  · obtain rfl := own_case 7 q (by decide)
    decide
  · obtain rfl := own_case 8 q (by decide)
    decide
  · obtain rfl := own_case 9 q (by decide)
    decide
  · obtain rfl := own_case 10 q (by decide)
    decide
  · obtain rfl := own_case 11 q (by decide)
    decide
  · obtain rfl := own_case 12 q (by decide)
    decide
  · obtain rfl := own_case 13 q (by decide)
    decide
  · obtain rfl := own_case 14 q (by decide)
    decide
  · obtain rfl := own_case 15 q (by decide)
    decide
  · obtain rfl := own_case 16 q (by decide)
    decide
  · obtain rfl := own_case 17 q (by decide)
    decide
  · obtain rfl := own_case 18 q (by decide)
    decide
  · obtain rfl := own_case 19 q (by decide)
    decide
  · obtain rfl := own_case 20 q (by decide)
    decide
  · obtain rfl := own_case 21 q (by decide)
    decide
  · obtain rfl := own_case 22 q (by decide)
    decide
  · obtain rfl := own_case 23 q (by decide)
    decide
  · obtain rfl := own_case 24 q (by decide)
    decide
  · obtain rfl := own_case 25 q (by decide)
    decide
theorem own_chB (k : Int32) (h0 : 26 ≤ k.toInt) (h1 : k.toInt < 36) : own_ok (nar .char ((48 + (k - 26)).toUInt32.toUInt16.toUInt32.toInt32)) := by
  rcases (by omega : k.toInt = 26 ∨ k.toInt = 27 ∨ k.toInt = 28 ∨ k.toInt = 29 ∨ k.toInt = 30 ∨ k.toInt = 31 ∨ k.toInt = 32 ∨ k.toInt = 33 ∨ k.toInt = 34 ∨ k.toInt = 35) with q | q | q | q | q | q | q | q | q | q
  · obtain rfl := own_case 26 q (by decide)
    decide
  · obtain rfl := own_case 27 q (by decide)
    decide
  · obtain rfl := own_case 28 q (by decide)
    decide
  · obtain rfl := own_case 29 q (by decide)
    decide
  · obtain rfl := own_case 30 q (by decide)
    decide
  · obtain rfl := own_case 31 q (by decide)
    decide
  · obtain rfl := own_case 32 q (by decide)
    decide
  · obtain rfl := own_case 33 q (by decide)
    decide
  · obtain rfl := own_case 34 q (by decide)
    decide
  · obtain rfl := own_case 35 q (by decide)
    decide
theorem own_pn0 : plainName "com/example/salp/salp/model/EdgeTypeOfPinLaw" = true := by first | (simp [plainName, overriddenIn]; done) | decide +kernel
theorem own_ef_ch (m : MethodId) (x : Int32) : entryFrame m #[(.int x)] 2 = mkF m 0 #[.val (.int x), .unset] [] := by first | (simp [entryFrame, mkF, argsToLocals, Value.category]; done) | rfl
theorem own_d_method_2_0 : decode method_2_code 0 = .ok (.iload_n 0, 1) := by decide +kernel
theorem own_d_method_2_1 : decode method_2_code 1 = .ok (.ldc 7, 2) := by decide +kernel
theorem own_d_method_2_3 : decode method_2_code 3 = .ok (.iand, 1) := by decide +kernel
theorem own_d_method_2_4 : decode method_2_code 4 = .ok (.bipush 37, 2) := by decide +kernel
theorem own_d_method_2_6 : decode method_2_code 6 = .ok (.irem, 1) := by decide +kernel
theorem own_d_method_2_7 : decode method_2_code 7 = .ok (.istore_n 1, 1) := by decide +kernel
theorem own_d_method_2_8 : decode method_2_code 8 = .ok (.iload_n 1, 1) := by decide +kernel
theorem own_d_method_2_9 : decode method_2_code 9 = .ok (.bipush 26, 2) := by decide +kernel
theorem own_d_method_2_11 : decode method_2_code 11 = .ok (.if_icmp .ge 9, 3) := by decide +kernel
theorem own_d_method_2_14 : decode method_2_code 14 = .ok (.bipush 97, 2) := by decide +kernel
theorem own_d_method_2_16 : decode method_2_code 16 = .ok (.iload_n 1, 1) := by decide +kernel
theorem own_d_method_2_17 : decode method_2_code 17 = .ok (.iadd, 1) := by decide +kernel
theorem own_d_method_2_18 : decode method_2_code 18 = .ok (.i2c, 1) := by decide +kernel
theorem own_d_method_2_19 : decode method_2_code 19 = .ok (.ireturn, 1) := by decide +kernel
theorem own_d_method_2_20 : decode method_2_code 20 = .ok (.iload_n 1, 1) := by decide +kernel
theorem own_d_method_2_21 : decode method_2_code 21 = .ok (.bipush 36, 2) := by decide +kernel
theorem own_d_method_2_23 : decode method_2_code 23 = .ok (.if_icmp .ge 12, 3) := by decide +kernel
theorem own_d_method_2_26 : decode method_2_code 26 = .ok (.bipush 48, 2) := by decide +kernel
theorem own_d_method_2_28 : decode method_2_code 28 = .ok (.iload_n 1, 1) := by decide +kernel
theorem own_d_method_2_29 : decode method_2_code 29 = .ok (.bipush 26, 2) := by decide +kernel
theorem own_d_method_2_31 : decode method_2_code 31 = .ok (.isub, 1) := by decide +kernel
theorem own_d_method_2_32 : decode method_2_code 32 = .ok (.iadd, 1) := by decide +kernel
theorem own_d_method_2_33 : decode method_2_code 33 = .ok (.i2c, 1) := by decide +kernel
theorem own_d_method_2_34 : decode method_2_code 34 = .ok (.ireturn, 1) := by decide +kernel
theorem own_d_method_2_35 : decode method_2_code 35 = .ok (.bipush 95, 2) := by decide +kernel
theorem own_d_method_2_37 : decode method_2_code 37 = .ok (.ireturn, 1) := by decide +kernel
def Q_ch (Z : State) (x : Int32) (h0 : Heap) (v_ : Option Value) (h : Heap) (L_ : List Loc) : Prop := ∃ (c1 : Int32), v_ = some (.int c1) ∧ Fr Z.heap.size L_ ∧ (own_ok c1 ∧ h = h0)
set_option maxRecDepth 65536 in
set_option maxHeartbeats 40000000 in
theorem rm_ch (l : Launch) (Z : State) (a0 : Array Value) (hw : ∀ d ∈ tables_1, d.before a0 Z = true) (ws : List Jvm.Cond) (x : Int32) (h0 : Heap) (O : Ext Z.heap h0) :
    MetFree l (⟨"com/example/salp/salp/model/EdgeTypeOfPinLaw", "ch", "(I)C"⟩ : MethodName) (head1 (Jvm.Cond.code (⟨"com/example/salp/salp/model/EdgeTypeOfPinLaw", "ch", "(I)C"⟩ : MethodName) method_2_code 2 (some .char) :: ws) ({ frames := 0, cells := 0, slots := 0, locals := 0 } : Room)) (fun a_ U_ => a_ = #[(.int x)] ∧ Z.Warmed39 U_.vm ∧ U_.heap = h0) (fun _ _ _ _ _ => True) (fun _ U_ o_ U2_ => ∃ v_ L_, o_ = .returned v_ ∧ Q_ch Z x h0 v_ U2_.heap L_ ∧ FrameEnd U_ o_ U2_ L_ ({ frames := 0, cells := 0, slots := 0, locals := 0 } : Room).cells ({ frames := 0, cells := 0, slots := 0, locals := 0 } : Room).slots) := by
  refine MetFree.of_bodySF (plainFor_of_name own_pn0) hisR ?_
  intro p e s m args below meth c s₁ Bd hml0 hP hK
  obtain ⟨rfl, hZ, hh⟩ := hP
  have hx := Bd.exec
  have hby := Bd.bytes
  have hml : c.maxLocals = 2 := hml0
  have hown : s.vm.findClass "com/example/salp/salp/model/EdgeTypeOfPinLaw" = some m.cls := findClass_of_methodNamed Bd.named
  have hnm := (name_of_methodNamed Bd.named Bd.method).1
  have X0 : Stand p l e ({ frames := 0, cells := 0, slots := 0, locals := 0 } : Room) s m #[(.int x)] below meth c s₁ [] 0 0 := Stand.of_body Bd
  have e0 : s₁.heap = h0 := by rw [← hh, Bd.state]; rfl
  have N0 := Fr.nil Z.heap.size
  show own_G p e below (fun o_ s₂ => ∃ v_ L_, o_ = .returned v_ ∧ Q_ch Z x h0 v_ s₂.heap L_ ∧ FrameEnd s o_ s₂ L_ ({ frames := 0, cells := 0, slots := 0, locals := 0 } : Room).cells ({ frames := 0, cells := 0, slots := 0, locals := 0 } : Room).slots) (s₁.setTop (entryFrame m #[(.int x)] 2))
  refine own_go (s₁.setTop (mkF m 0 #[.val (.int x), .unset] [])) (fun t_ k_ => castTop (own_ef_ch m x) k_) ?_
  refine own_go (s₁.setTop (mkF m 1 #[.val (.int x), .unset] [(.int x)])) (fun t_ k_ => XS.iloadN X0.here hx rfl (hb hby own_d_method_2_0) rfl k_) ?_
  refine own_go (s₁.setTop (mkF m 3 #[.val (.int x), .unset] [(.int (2147483647 : Int32)), (.int x)])) (fun t_ k_ => X0.ldcInt hx hown (mvT hZ (hw _ (List.mem_of_getElem? (i := 5) rfl))) (g := (mkF m 1 #[.val (.int x), .unset] [(.int x)])) rfl (hb hby own_d_method_2_1) _ k_) ?_
  refine own_go (s₁.setTop (mkF m 4 #[.val (.int x), .unset] [(.int (x &&& (2147483647 : Int32)))])) (fun t_ k_ => XS.iand X0.here hx rfl (hb hby own_d_method_2_3) rfl k_) ?_
  refine own_go (s₁.setTop (mkF m 6 #[.val (.int x), .unset] [(.int (37 : Int32)), (.int (x &&& (2147483647 : Int32)))])) (fun t_ k_ => XS.bipush X0.here hx rfl (hb hby own_d_method_2_4) k_) ?_
  refine own_go (s₁.setTop (mkF m 7 #[.val (.int x), .unset] [(.int ((x &&& (2147483647 : Int32)) % (37 : Int32)))])) (fun t_ k_ => Jvm.RoadKit.iremM X0 hx rfl (hb hby own_d_method_2_6) rfl (by decide) k_) ?_
  refine own_go (s₁.setTop (mkF m 8 #[.val (.int x), .val (.int ((x &&& (2147483647 : Int32)) % (37 : Int32)))] [])) (fun t_ k_ => XS.istoreN X0.here hx rfl (hb hby own_d_method_2_7) rfl (l' := #[.val (.int x), .val (.int ((x &&& (2147483647 : Int32)) % (37 : Int32)))]) rfl k_) ?_
  obtain ⟨hk0, hk1⟩ := own_mod x 37 (by decide)
  obtain ⟨k, hk⟩ : ∃ z, z = ((x &&& (2147483647 : Int32)) % (37 : Int32)) := ⟨_, rfl⟩
  rw [← hk] at hk0 hk1
  rw [← hk]
  have e37 : (37 : Int32).toInt = 37 := by decide
  have e26 : (26 : Int32).toInt = 26 := by decide
  have e36 : (36 : Int32).toInt = 36 := by decide
  refine own_go (s₁.setTop (mkF m 9 #[.val (.int x), .val (.int k)] [(.int k)])) (fun t_ k_ => XS.iloadN X0.here hx rfl (hb hby own_d_method_2_8) rfl k_) ?_
  refine own_go (s₁.setTop (mkF m 11 #[.val (.int x), .val (.int k)] [(.int (26 : Int32)), (.int k)])) (fun t_ k_ => XS.bipush X0.here hx rfl (hb hby own_d_method_2_9) k_) ?_
  by_cases hc11_1 : k < (26 : Int32)
  ·
    refine own_go (s₁.setTop (mkF m 14 #[.val (.int x), .val (.int k)] [])) (fun t_ k_ => XS.icmpNo X0.here hx rfl (hb hby own_d_method_2_11) rfl (tlt hc11_1).2.1 k_) ?_
    refine own_go (s₁.setTop (mkF m 16 #[.val (.int x), .val (.int k)] [(.int (97 : Int32))])) (fun t_ k_ => XS.bipush X0.here hx rfl (hb hby own_d_method_2_14) k_) ?_
    refine own_go (s₁.setTop (mkF m 17 #[.val (.int x), .val (.int k)] [(.int k), (.int (97 : Int32))])) (fun t_ k_ => XS.iloadN X0.here hx rfl (hb hby own_d_method_2_16) rfl k_) ?_
    refine own_go (s₁.setTop (mkF m 18 #[.val (.int x), .val (.int k)] [(.int ((97 : Int32) + k))])) (fun t_ k_ => XS.iadd X0.here hx rfl (hb hby own_d_method_2_17) rfl k_) ?_
    refine own_go (s₁.setTop (mkF m 19 #[.val (.int x), .val (.int k)] [(.int (((97 : Int32) + k).toUInt32.toUInt16.toUInt32.toInt32))])) (fun t_ k_ => XS.i2c X0.here hx rfl (hb hby own_d_method_2_18) rfl k_) ?_
    obtain ⟨fs, hr, hrun, hended, hW, hsame⟩ := X0.leave (v := some (.int (nar .char (((97 : Int32) + k).toUInt32.toUInt16.toUInt32.toInt32)))) (fun h => by rw [Bd.returns] at h; cases h)
    refine ⟨_, _, retN X0 hx (t := .char) Bd.returns (by simp) (hb hby own_d_method_2_19) hr, hrun, hended, _, _, rfl, ?_, ⟨_, rfl⟩, hW, hsame.mono (by decide) (by decide)⟩
    show Q_ch Z x h0 _ s₁.heap _
    exact ⟨_, rfl, N0, own_chA k hk0 (by have := hc11_1; rw [Int32.lt_iff_toInt_lt] at this; omega), e0⟩
  ·
    refine own_go (s₁.setTop (mkF m 20 #[.val (.int x), .val (.int k)] [])) (fun t_ k_ => XS.icmpYes X0.here hx rfl (pc0 := 11) (pc' := 20) rfl (hb hby own_d_method_2_11) rfl (flt hc11_1).2.1 (by decide) (by decide) k_) ?_
    refine own_go (s₁.setTop (mkF m 21 #[.val (.int x), .val (.int k)] [(.int k)])) (fun t_ k_ => XS.iloadN X0.here hx rfl (hb hby own_d_method_2_20) rfl k_) ?_
    refine own_go (s₁.setTop (mkF m 23 #[.val (.int x), .val (.int k)] [(.int (36 : Int32)), (.int k)])) (fun t_ k_ => XS.bipush X0.here hx rfl (hb hby own_d_method_2_21) k_) ?_
    by_cases hc23_2 : k < (36 : Int32)
    ·
      refine own_go (s₁.setTop (mkF m 26 #[.val (.int x), .val (.int k)] [])) (fun t_ k_ => XS.icmpNo X0.here hx rfl (hb hby own_d_method_2_23) rfl (tlt hc23_2).2.1 k_) ?_
      refine own_go (s₁.setTop (mkF m 28 #[.val (.int x), .val (.int k)] [(.int (48 : Int32))])) (fun t_ k_ => XS.bipush X0.here hx rfl (hb hby own_d_method_2_26) k_) ?_
      refine own_go (s₁.setTop (mkF m 29 #[.val (.int x), .val (.int k)] [(.int k), (.int (48 : Int32))])) (fun t_ k_ => XS.iloadN X0.here hx rfl (hb hby own_d_method_2_28) rfl k_) ?_
      refine own_go (s₁.setTop (mkF m 31 #[.val (.int x), .val (.int k)] [(.int (26 : Int32)), (.int k), (.int (48 : Int32))])) (fun t_ k_ => XS.bipush X0.here hx rfl (hb hby own_d_method_2_29) k_) ?_
      refine own_go (s₁.setTop (mkF m 32 #[.val (.int x), .val (.int k)] [(.int (k - (26 : Int32))), (.int (48 : Int32))])) (fun t_ k_ => XS.isub X0.here hx rfl (hb hby own_d_method_2_31) rfl k_) ?_
      refine own_go (s₁.setTop (mkF m 33 #[.val (.int x), .val (.int k)] [(.int ((48 : Int32) + (k - (26 : Int32))))])) (fun t_ k_ => XS.iadd X0.here hx rfl (hb hby own_d_method_2_32) rfl k_) ?_
      refine own_go (s₁.setTop (mkF m 34 #[.val (.int x), .val (.int k)] [(.int (((48 : Int32) + (k - (26 : Int32))).toUInt32.toUInt16.toUInt32.toInt32))])) (fun t_ k_ => XS.i2c X0.here hx rfl (hb hby own_d_method_2_33) rfl k_) ?_
      obtain ⟨fs, hr, hrun, hended, hW, hsame⟩ := X0.leave (v := some (.int (nar .char (((48 : Int32) + (k - (26 : Int32))).toUInt32.toUInt16.toUInt32.toInt32)))) (fun h => by rw [Bd.returns] at h; cases h)
      refine ⟨_, _, retN X0 hx (t := .char) Bd.returns (by simp) (hb hby own_d_method_2_34) hr, hrun, hended, _, _, rfl, ?_, ⟨_, rfl⟩, hW, hsame.mono (by decide) (by decide)⟩
      show Q_ch Z x h0 _ s₁.heap _
      exact ⟨_, rfl, N0, own_chB k (by have := hc11_1; rw [Int32.lt_iff_toInt_lt] at this; omega) (by have := hc23_2; rw [Int32.lt_iff_toInt_lt] at this; omega), e0⟩
    ·
      refine own_go (s₁.setTop (mkF m 35 #[.val (.int x), .val (.int k)] [])) (fun t_ k_ => XS.icmpYes X0.here hx rfl (pc0 := 23) (pc' := 35) rfl (hb hby own_d_method_2_23) rfl (flt hc23_2).2.1 (by decide) (by decide) k_) ?_
      refine own_go (s₁.setTop (mkF m 37 #[.val (.int x), .val (.int k)] [(.int (95 : Int32))])) (fun t_ k_ => XS.bipush X0.here hx rfl (hb hby own_d_method_2_35) k_) ?_
      obtain ⟨fs, hr, hrun, hended, hW, hsame⟩ := X0.leave (v := some (.int (nar .char (95 : Int32)))) (fun h => by rw [Bd.returns] at h; cases h)
      refine ⟨_, _, retN X0 hx (t := .char) Bd.returns (by simp) (hb hby own_d_method_2_37) hr, hrun, hended, _, _, rfl, ?_, ⟨_, rfl⟩, hW, hsame.mono (by decide) (by decide)⟩
      show Q_ch Z x h0 _ s₁.heap _
      exact ⟨_, rfl, N0, (by decide : own_ok (nar .char 95)), e0⟩
theorem own_pn1 : plainName "java/util/Objects" = true := by first | (simp [plainName, overriddenIn]; done) | decide +kernel
theorem own_ef_rn (m : MethodId) (a : Addr) (b : Addr) : entryFrame m #[(.ref a), (.ref b)] 2 = mkF m 0 #[.val (.ref a), .val (.ref b)] [] := by first | (simp [entryFrame, mkF, argsToLocals, Value.category]; done) | rfl
theorem own_d_jdk_31_method_11_0 : decode jdk_31_method_11_code 0 = .ok (.aload_n 0, 1) := by decide +kernel
theorem own_d_jdk_31_method_11_1 : decode jdk_31_method_11_code 1 = .ok (.ifnonnull 12, 3) := by decide +kernel
theorem own_d_jdk_31_method_11_13 : decode jdk_31_method_11_code 13 = .ok (.aload_n 0, 1) := by decide +kernel
theorem own_d_jdk_31_method_11_14 : decode jdk_31_method_11_code 14 = .ok (.areturn, 1) := by decide +kernel
def Q_rn (Z : State) (a : Addr) (b : Addr) (h0 : Heap) (v_ : Option Value) (h : Heap) (L_ : List Loc) : Prop := v_ = some (.ref a) ∧ Fr Z.heap.size L_ ∧ (h = h0)
set_option maxRecDepth 65536 in
set_option maxHeartbeats 40000000 in
theorem rm_rn (l : Launch) (Z : State) (a0 : Array Value) (hw : ∀ d ∈ tables_1, d.before a0 Z = true) (ws : List Jvm.Cond) (a : Addr) (b : Addr) (h0 : Heap) (O : Ext Z.heap h0) :
    MetFree l (⟨"java/util/Objects", "requireNonNull", "(Ljava/lang/Object;Ljava/lang/String;)Ljava/lang/Object;"⟩ : MethodName) (head1 (Jvm.Cond.code (⟨"java/util/Objects", "requireNonNull", "(Ljava/lang/Object;Ljava/lang/String;)Ljava/lang/Object;"⟩ : MethodName) jdk_31_method_11_code 2 (some (.object "java/lang/Object")) :: ws) ({ frames := 0, cells := 0, slots := 0, locals := 0 } : Room)) (fun a_ U_ => a_ = #[(.ref a), (.ref b)] ∧ Z.Warmed39 U_.vm ∧ U_.heap = h0) (fun _ _ _ _ _ => True) (fun _ U_ o_ U2_ => ∃ v_ L_, o_ = .returned v_ ∧ Q_rn Z a b h0 v_ U2_.heap L_ ∧ FrameEnd U_ o_ U2_ L_ ({ frames := 0, cells := 0, slots := 0, locals := 0 } : Room).cells ({ frames := 0, cells := 0, slots := 0, locals := 0 } : Room).slots) := by
  refine MetFree.of_bodySF (plainFor_of_name own_pn1) hisR ?_
  intro p e s m args below meth c s₁ Bd hml0 hP hK
  obtain ⟨rfl, hZ, hh⟩ := hP
  have hx := Bd.exec
  have hby := Bd.bytes
  have hml : c.maxLocals = 2 := hml0
  have hown : s.vm.findClass "java/util/Objects" = some m.cls := findClass_of_methodNamed Bd.named
  have hnm := (name_of_methodNamed Bd.named Bd.method).1
  have X0 : Stand p l e ({ frames := 0, cells := 0, slots := 0, locals := 0 } : Room) s m #[(.ref a), (.ref b)] below meth c s₁ [] 0 0 := Stand.of_body Bd
  have e0 : s₁.heap = h0 := by rw [← hh, Bd.state]; rfl
  have N0 := Fr.nil Z.heap.size
  show own_G p e below (fun o_ s₂ => ∃ v_ L_, o_ = .returned v_ ∧ Q_rn Z a b h0 v_ s₂.heap L_ ∧ FrameEnd s o_ s₂ L_ ({ frames := 0, cells := 0, slots := 0, locals := 0 } : Room).cells ({ frames := 0, cells := 0, slots := 0, locals := 0 } : Room).slots) (s₁.setTop (entryFrame m #[(.ref a), (.ref b)] 2))
  refine own_go (s₁.setTop (mkF m 0 #[.val (.ref a), .val (.ref b)] [])) (fun t_ k_ => castTop (own_ef_rn m a b) k_) ?_
  refine own_go (s₁.setTop (mkF m 1 #[.val (.ref a), .val (.ref b)] [(.ref a)])) (fun t_ k_ => XS.aloadN X0.here hx rfl (hb hby own_d_jdk_31_method_11_0) rfl rfl k_) ?_
  refine own_go (s₁.setTop (mkF m 13 #[.val (.ref a), .val (.ref b)] [])) (fun t_ k_ => XS.ifnonnullYes X0.here hx rfl (pc0 := 1) (pc' := 13) rfl (hb hby own_d_jdk_31_method_11_1) rfl (by decide) (by decide) k_) ?_
  refine own_go (s₁.setTop (mkF m 14 #[.val (.ref a), .val (.ref b)] [(.ref a)])) (fun t_ k_ => XS.aloadN X0.here hx rfl (hb hby own_d_jdk_31_method_11_13) rfl rfl k_) ?_
  obtain ⟨fs, hr, hrun, hended, hW, hsame⟩ := X0.leave (v := some (.ref a)) (fun h => by rw [Bd.returns] at h; cases h)
  refine ⟨_, _, Jvm.RoadKit.retOut X0 hx Bd.returns rfl (Or.inr (Or.inr (Or.inr (Or.inr ⟨rfl, rfl, rfl⟩)))) (hb hby own_d_jdk_31_method_11_14) hr, hrun, hended, _, _, rfl, ?_, ⟨_, rfl⟩, hW, hsame.mono (by decide) (by decide)⟩
  show Q_rn Z a b h0 _ s₁.heap _
  exact ⟨rfl, N0, e0⟩
theorem own_pn2 : plainName "com/example/salp/salp/model/EdgeType" = true := by first | (simp [plainName, overriddenIn]; done) | decide +kernel
theorem own_ef_ei (m : MethodId) (a : Addr) (b : Addr) : entryFrame m #[(.ref a), (.ref b)] 2 = mkF m 0 #[.val (.ref a), .val (.ref b)] [] := by first | (simp [entryFrame, mkF, argsToLocals, Value.category]; done) | rfl
theorem own_d_prog_7_method_1_0 : decode prog_7_method_1_code 0 = .ok (.aload_n 0, 1) := by decide +kernel
theorem own_d_prog_7_method_1_1 : decode prog_7_method_1_code 1 = .ok (.invokespecial 1, 3) := by decide +kernel
theorem own_d_prog_7_method_1_4 : decode prog_7_method_1_code 4 = .ok (.aload_n 0, 1) := by decide +kernel
theorem own_d_prog_7_method_1_5 : decode prog_7_method_1_code 5 = .ok (.aload_n 1, 1) := by decide +kernel
theorem own_d_prog_7_method_1_6 : decode prog_7_method_1_code 6 = .ok (.putfield 7, 3) := by decide +kernel
theorem own_d_prog_7_method_1_9 : decode prog_7_method_1_code 9 = .ok (.return_, 1) := by decide +kernel
def Q_ei (Z : State) (a : Addr) (b : Addr) (h0 : Heap) (v_ : Option Value) (h : Heap) (L_ : List Loc) : Prop := v_ = none ∧ Fr Z.heap.size L_ ∧ (Keep h0 h [a] ∧ Exa Z h a "com/example/salp/salp/model/EdgeType" ∧ Fld Z h a "com/example/salp/salp/model/EdgeType" "name" "Ljava/lang/String;" (.ref b))
set_option maxRecDepth 65536 in
set_option maxHeartbeats 40000000 in
theorem rm_ei (l : Launch) (Z : State) (a0 : Array Value) (hw : ∀ d ∈ tables_1, d.before a0 Z = true) (ws : List Jvm.Cond) (a : Addr) (b : Addr) (h0 : Heap) (O : Ext Z.heap h0) (X : Exa Z h0 a "com/example/salp/salp/model/EdgeType") (F : Fld Z h0 a "com/example/salp/salp/model/EdgeType" "name" "Ljava/lang/String;" .null) (ga : Z.heap.size ≤ a) :
    MetFree l (⟨"com/example/salp/salp/model/EdgeType", "<init>", "(Ljava/lang/String;)V"⟩ : MethodName) (head1 (Jvm.Cond.code (⟨"com/example/salp/salp/model/EdgeType", "<init>", "(Ljava/lang/String;)V"⟩ : MethodName) prog_7_method_1_code 2 none :: ws) ({ frames := 1, cells := 0, slots := 0, locals := 12 } : Room)) (fun a_ U_ => a_ = #[(.ref a), (.ref b)] ∧ Z.Warmed39 U_.vm ∧ U_.heap = h0) (fun _ _ _ _ _ => True) (fun _ U_ o_ U2_ => ∃ v_ L_, o_ = .returned v_ ∧ Q_ei Z a b h0 v_ U2_.heap L_ ∧ FrameEnd U_ o_ U2_ L_ ({ frames := 1, cells := 0, slots := 0, locals := 12 } : Room).cells ({ frames := 1, cells := 0, slots := 0, locals := 12 } : Room).slots) := by
  refine MetFree.of_bodySF (plainFor_of_name own_pn2) hisR ?_
  intro p e s m args below meth c s₁ Bd hml0 hP hK
  obtain ⟨rfl, hZ, hh⟩ := hP
  have hx := Bd.exec
  have hby := Bd.bytes
  have hml : c.maxLocals = 2 := hml0
  have hown : s.vm.findClass "com/example/salp/salp/model/EdgeType" = some m.cls := findClass_of_methodNamed Bd.named
  have hnm := (name_of_methodNamed Bd.named Bd.method).1
  have X0 : Stand p l e ({ frames := 1, cells := 0, slots := 0, locals := 12 } : Room) s m #[(.ref a), (.ref b)] below meth c s₁ [] 0 0 := Stand.of_body Bd
  have e0 : s₁.heap = h0 := by rw [← hh, Bd.state]; rfl
  have N0 := Fr.nil Z.heap.size
  show own_G p e below (fun o_ s₂ => ∃ v_ L_, o_ = .returned v_ ∧ Q_ei Z a b h0 v_ s₂.heap L_ ∧ FrameEnd s o_ s₂ L_ ({ frames := 1, cells := 0, slots := 0, locals := 12 } : Room).cells ({ frames := 1, cells := 0, slots := 0, locals := 12 } : Room).slots) (s₁.setTop (entryFrame m #[(.ref a), (.ref b)] 2))
  refine own_go (s₁.setTop (mkF m 0 #[.val (.ref a), .val (.ref b)] [])) (fun t_ k_ => castTop (own_ef_ei m a b) k_) ?_
  refine own_go (s₁.setTop (mkF m 1 #[.val (.ref a), .val (.ref b)] [(.ref a)])) (fun t_ k_ => XS.aloadN X0.here hx rfl (hb hby own_d_prog_7_method_1_0) rfl rfl k_) ?_
  obtain ⟨T1, X1, e1, st1⟩ := initO X0 hx hZ hown (hw _ (List.mem_of_getElem? (i := 88) rfl)) (hw _ (List.mem_of_getElem? (i := 17) rfl)) (hw _ (List.mem_of_getElem? (i := 18) rfl)) e0 (g := (mkF m 1 #[.val (.ref a), .val (.ref b)] [(.ref a)])) rfl (by rw [hml]; rfl) rfl (hb hby own_d_prog_7_method_1_1) (by decide) (W := 0) (by show 2 * 0 + _ ≤ _; exact Nat.le_of_eq rfl) (by decide)
  refine own_go (T1.setTop (mkF m 4 #[.val (.ref a), .val (.ref b)] [])) (fun t_ k_ => st1 _ k_) ?_
  refine own_go (T1.setTop (mkF m 5 #[.val (.ref a), .val (.ref b)] [(.ref a)])) (fun t_ k_ => XS.aloadN X1.here hx rfl (hb hby own_d_prog_7_method_1_4) rfl rfl k_) ?_
  refine own_go (T1.setTop (mkF m 6 #[.val (.ref a), .val (.ref b)] [(.ref b), (.ref a)])) (fun t_ k_ => XS.aloadN X1.here hx rfl (hb hby own_d_prog_7_method_1_5) rfl rfl k_) ?_
  obtain ⟨T2, h2, X2, e2, W2, st2⟩ := putF X1 hx hZ hown (host := "") (Or.inl (hw _ (List.mem_of_getElem? (i := 89) rfl))) Via.refl e1 F X (Or.inr ⟨(hw _ (List.mem_of_getElem? (i := 90) rfl)), rfl, hnm⟩) (hw _ (List.mem_of_getElem? (i := 84) rfl)) (ty := (.object "java/lang/String")) (by decide) rfl rfl (g := (mkF m 6 #[.val (.ref a), .val (.ref b)] [(.ref b), (.ref a)])) rfl rfl (hb hby own_d_prog_7_method_1_6)
  have Fw2 := F.same W2
  have K2 : Keep h0 h2 [a] := (Keep.refl h0 [a]).wr W2 (Or.inl (List.mem_of_getElem? (i := 0) rfl))
  have N2 := Fr.snoc X2 N0 ga
  have O2 := own_extW O W2 ga
  refine own_go (T2.setTop (mkF m 9 #[.val (.ref a), .val (.ref b)] [])) (fun t_ k_ => st2 _ k_) ?_
  obtain ⟨fs, hr, hrun, hended, hW, hsame⟩ := X2.leave (v := none) (fun _ => rfl)
  refine ⟨_, _, X2.returnOut hx Bd.returns (hb hby own_d_prog_7_method_1_9) hr, hrun, hended, _, _, rfl, ?_, ⟨_, rfl⟩, hW, hsame.mono (by decide) (by decide)⟩
  show Q_ei Z a b h0 _ T2.heap _
  have Fz3 := (X.wr W2)
  show Q_ei Z a b h0 _ T2.heap _
  rw [e2]
  exact ⟨rfl, N2, K2, Fz3, Fw2⟩
theorem own_ef_gn (m : MethodId) (a : Addr) : entryFrame m #[(.ref a)] 1 = mkF m 0 #[.val (.ref a)] [] := by first | (simp [entryFrame, mkF, argsToLocals, Value.category]; done) | rfl
theorem own_d_prog_7_method_3_0 : decode prog_7_method_3_code 0 = .ok (.aload_n 0, 1) := by decide +kernel
theorem own_d_prog_7_method_3_1 : decode prog_7_method_3_code 1 = .ok (.getfield 7, 3) := by decide +kernel
theorem own_d_prog_7_method_3_4 : decode prog_7_method_3_code 4 = .ok (.areturn, 1) := by decide +kernel
def Q_gn (Z : State) (a : Addr) (b : Addr) (h0 : Heap) (v_ : Option Value) (h : Heap) (L_ : List Loc) : Prop := v_ = some (.ref b) ∧ Fr Z.heap.size L_ ∧ (h = h0)
set_option maxRecDepth 65536 in
set_option maxHeartbeats 40000000 in
theorem rm_gn (l : Launch) (Z : State) (a0 : Array Value) (hw : ∀ d ∈ tables_1, d.before a0 Z = true) (ws : List Jvm.Cond) (a : Addr) (b : Addr) (h0 : Heap) (O : Ext Z.heap h0) (F : Fld Z h0 a "com/example/salp/salp/model/EdgeType" "name" "Ljava/lang/String;" (.ref b)) :
    MetFree l (⟨"com/example/salp/salp/model/EdgeType", "name", "()Ljava/lang/String;"⟩ : MethodName) (head1 (Jvm.Cond.code (⟨"com/example/salp/salp/model/EdgeType", "name", "()Ljava/lang/String;"⟩ : MethodName) prog_7_method_3_code 1 (some (.object "java/lang/String")) :: ws) ({ frames := 0, cells := 0, slots := 0, locals := 0 } : Room)) (fun a_ U_ => a_ = #[(.ref a)] ∧ Z.Warmed39 U_.vm ∧ U_.heap = h0) (fun _ _ _ _ _ => True) (fun _ U_ o_ U2_ => ∃ v_ L_, o_ = .returned v_ ∧ Q_gn Z a b h0 v_ U2_.heap L_ ∧ FrameEnd U_ o_ U2_ L_ ({ frames := 0, cells := 0, slots := 0, locals := 0 } : Room).cells ({ frames := 0, cells := 0, slots := 0, locals := 0 } : Room).slots) := by
  refine MetFree.of_bodySF (plainFor_of_name own_pn2) hisR ?_
  intro p e s m args below meth c s₁ Bd hml0 hP hK
  obtain ⟨rfl, hZ, hh⟩ := hP
  have hx := Bd.exec
  have hby := Bd.bytes
  have hml : c.maxLocals = 1 := hml0
  have hown : s.vm.findClass "com/example/salp/salp/model/EdgeType" = some m.cls := findClass_of_methodNamed Bd.named
  have hnm := (name_of_methodNamed Bd.named Bd.method).1
  have X0 : Stand p l e ({ frames := 0, cells := 0, slots := 0, locals := 0 } : Room) s m #[(.ref a)] below meth c s₁ [] 0 0 := Stand.of_body Bd
  have e0 : s₁.heap = h0 := by rw [← hh, Bd.state]; rfl
  have N0 := Fr.nil Z.heap.size
  show own_G p e below (fun o_ s₂ => ∃ v_ L_, o_ = .returned v_ ∧ Q_gn Z a b h0 v_ s₂.heap L_ ∧ FrameEnd s o_ s₂ L_ ({ frames := 0, cells := 0, slots := 0, locals := 0 } : Room).cells ({ frames := 0, cells := 0, slots := 0, locals := 0 } : Room).slots) (s₁.setTop (entryFrame m #[(.ref a)] 1))
  refine own_go (s₁.setTop (mkF m 0 #[.val (.ref a)] [])) (fun t_ k_ => castTop (own_ef_gn m a) k_) ?_
  refine own_go (s₁.setTop (mkF m 1 #[.val (.ref a)] [(.ref a)])) (fun t_ k_ => XS.aloadN X0.here hx rfl (hb hby own_d_prog_7_method_3_0) rfl rfl k_) ?_
  obtain ⟨T1, X1, e1, st1⟩ := getF X0 hx hZ hown (host := "") (Or.inl (hw _ (List.mem_of_getElem? (i := 89) rfl))) Via.refl e0 F (g := (mkF m 1 #[.val (.ref a)] [(.ref a)])) rfl rfl (hb hby own_d_prog_7_method_3_1)
  refine own_go (T1.setTop (mkF m 4 #[.val (.ref a)] [(.ref b)])) (fun t_ k_ => st1 _ k_) ?_
  obtain ⟨fs, hr, hrun, hended, hW, hsame⟩ := X1.leave (v := some (.ref b)) (fun h => by rw [Bd.returns] at h; cases h)
  refine ⟨_, _, Jvm.RoadKit.retOut X1 hx Bd.returns rfl (Or.inr (Or.inr (Or.inr (Or.inr ⟨rfl, rfl, rfl⟩)))) (hb hby own_d_prog_7_method_3_4) hr, hrun, hended, _, _, rfl, ?_, ⟨_, rfl⟩, hW, hsame.mono (by decide) (by decide)⟩
  show Q_gn Z a b h0 _ T1.heap _
  exact ⟨rfl, N0, e1⟩
theorem own_ef_gt (m : MethodId) (a : Addr) : entryFrame m #[(.ref a)] 1 = mkF m 0 #[.val (.ref a)] [] := by first | (simp [entryFrame, mkF, argsToLocals, Value.category]; done) | rfl
theorem own_d_prog_7_method_4_0 : decode prog_7_method_4_code 0 = .ok (.aload_n 0, 1) := by decide +kernel
theorem own_d_prog_7_method_4_1 : decode prog_7_method_4_code 1 = .ok (.getfield 7, 3) := by decide +kernel
theorem own_d_prog_7_method_4_4 : decode prog_7_method_4_code 4 = .ok (.areturn, 1) := by decide +kernel
def Q_gt (Z : State) (a : Addr) (b : Addr) (h0 : Heap) (v_ : Option Value) (h : Heap) (L_ : List Loc) : Prop := v_ = some (.ref b) ∧ Fr Z.heap.size L_ ∧ (h = h0)
set_option maxRecDepth 65536 in
set_option maxHeartbeats 40000000 in
theorem rm_gt (l : Launch) (Z : State) (a0 : Array Value) (hw : ∀ d ∈ tables_1, d.before a0 Z = true) (ws : List Jvm.Cond) (a : Addr) (b : Addr) (h0 : Heap) (O : Ext Z.heap h0) (F : Fld Z h0 a "com/example/salp/salp/model/EdgeType" "name" "Ljava/lang/String;" (.ref b)) :
    MetFree l (⟨"com/example/salp/salp/model/EdgeType", "toString", "()Ljava/lang/String;"⟩ : MethodName) (head1 (Jvm.Cond.code (⟨"com/example/salp/salp/model/EdgeType", "toString", "()Ljava/lang/String;"⟩ : MethodName) prog_7_method_4_code 1 (some (.object "java/lang/String")) :: ws) ({ frames := 0, cells := 0, slots := 0, locals := 0 } : Room)) (fun a_ U_ => a_ = #[(.ref a)] ∧ Z.Warmed39 U_.vm ∧ U_.heap = h0) (fun _ _ _ _ _ => True) (fun _ U_ o_ U2_ => ∃ v_ L_, o_ = .returned v_ ∧ Q_gt Z a b h0 v_ U2_.heap L_ ∧ FrameEnd U_ o_ U2_ L_ ({ frames := 0, cells := 0, slots := 0, locals := 0 } : Room).cells ({ frames := 0, cells := 0, slots := 0, locals := 0 } : Room).slots) := by
  refine MetFree.of_bodySF (plainFor_of_name own_pn2) hisR ?_
  intro p e s m args below meth c s₁ Bd hml0 hP hK
  obtain ⟨rfl, hZ, hh⟩ := hP
  have hx := Bd.exec
  have hby := Bd.bytes
  have hml : c.maxLocals = 1 := hml0
  have hown : s.vm.findClass "com/example/salp/salp/model/EdgeType" = some m.cls := findClass_of_methodNamed Bd.named
  have hnm := (name_of_methodNamed Bd.named Bd.method).1
  have X0 : Stand p l e ({ frames := 0, cells := 0, slots := 0, locals := 0 } : Room) s m #[(.ref a)] below meth c s₁ [] 0 0 := Stand.of_body Bd
  have e0 : s₁.heap = h0 := by rw [← hh, Bd.state]; rfl
  have N0 := Fr.nil Z.heap.size
  show own_G p e below (fun o_ s₂ => ∃ v_ L_, o_ = .returned v_ ∧ Q_gt Z a b h0 v_ s₂.heap L_ ∧ FrameEnd s o_ s₂ L_ ({ frames := 0, cells := 0, slots := 0, locals := 0 } : Room).cells ({ frames := 0, cells := 0, slots := 0, locals := 0 } : Room).slots) (s₁.setTop (entryFrame m #[(.ref a)] 1))
  refine own_go (s₁.setTop (mkF m 0 #[.val (.ref a)] [])) (fun t_ k_ => castTop (own_ef_gt m a) k_) ?_
  refine own_go (s₁.setTop (mkF m 1 #[.val (.ref a)] [(.ref a)])) (fun t_ k_ => XS.aloadN X0.here hx rfl (hb hby own_d_prog_7_method_4_0) rfl rfl k_) ?_
  obtain ⟨T1, X1, e1, st1⟩ := getF X0 hx hZ hown (host := "") (Or.inl (hw _ (List.mem_of_getElem? (i := 89) rfl))) Via.refl e0 F (g := (mkF m 1 #[.val (.ref a)] [(.ref a)])) rfl rfl (hb hby own_d_prog_7_method_4_1)
  refine own_go (T1.setTop (mkF m 4 #[.val (.ref a)] [(.ref b)])) (fun t_ k_ => st1 _ k_) ?_
  obtain ⟨fs, hr, hrun, hended, hW, hsame⟩ := X1.leave (v := some (.ref b)) (fun h => by rw [Bd.returns] at h; cases h)
  refine ⟨_, _, Jvm.RoadKit.retOut X1 hx Bd.returns rfl (Or.inr (Or.inr (Or.inr (Or.inr ⟨rfl, rfl, rfl⟩)))) (hb hby own_d_prog_7_method_4_4) hr, hrun, hended, _, _, rfl, ?_, ⟨_, rfl⟩, hW, hsame.mono (by decide) (by decide)⟩
  show Q_gt Z a b h0 _ T1.heap _
  exact ⟨rfl, N0, e1⟩
theorem own_pn3 : plainName "java/lang/String" = true := by first | (simp [plainName, overriddenIn]; done) | decide +kernel
theorem own_ef_eqs (m : MethodId) (a : Addr) : entryFrame m #[(.ref a), (.ref a)] 3 = mkF m 0 #[.val (.ref a), .val (.ref a), .unset] [] := by first | (simp [entryFrame, mkF, argsToLocals, Value.category]; done) | rfl
theorem own_d_jdk_42_method_66_0 : decode jdk_42_method_66_code 0 = .ok (.aload_n 0, 1) := by decide +kernel
theorem own_d_jdk_42_method_66_1 : decode jdk_42_method_66_code 1 = .ok (.aload_n 1, 1) := by decide +kernel
theorem own_d_jdk_42_method_66_2 : decode jdk_42_method_66_code 2 = .ok (.if_acmp .ne 5, 3) := by decide +kernel
theorem own_d_jdk_42_method_66_5 : decode jdk_42_method_66_code 5 = .ok (.iconst 1, 1) := by decide +kernel
theorem own_d_jdk_42_method_66_6 : decode jdk_42_method_66_code 6 = .ok (.ireturn, 1) := by decide +kernel
def Q_eqs (Z : State) (a : Addr) (h0 : Heap) (v_ : Option Value) (h : Heap) (L_ : List Loc) : Prop := v_ = some (.int 1) ∧ Fr Z.heap.size L_ ∧ (h = h0)
set_option maxRecDepth 65536 in
set_option maxHeartbeats 40000000 in
theorem rm_eqs (l : Launch) (Z : State) (a0 : Array Value) (hw : ∀ d ∈ tables_1, d.before a0 Z = true) (ws : List Jvm.Cond) (a : Addr) (h0 : Heap) (O : Ext Z.heap h0) :
    MetFree l (⟨"java/lang/String", "equals", "(Ljava/lang/Object;)Z"⟩ : MethodName) (head1 (Jvm.Cond.code (⟨"java/lang/String", "equals", "(Ljava/lang/Object;)Z"⟩ : MethodName) jdk_42_method_66_code 3 (some .boolean) :: ws) ({ frames := 0, cells := 0, slots := 0, locals := 0 } : Room)) (fun a_ U_ => a_ = #[(.ref a), (.ref a)] ∧ Z.Warmed39 U_.vm ∧ U_.heap = h0) (fun _ _ _ _ _ => True) (fun _ U_ o_ U2_ => ∃ v_ L_, o_ = .returned v_ ∧ Q_eqs Z a h0 v_ U2_.heap L_ ∧ FrameEnd U_ o_ U2_ L_ ({ frames := 0, cells := 0, slots := 0, locals := 0 } : Room).cells ({ frames := 0, cells := 0, slots := 0, locals := 0 } : Room).slots) := by
  refine MetFree.of_bodySF (plainFor_of_name own_pn3) hisR ?_
  intro p e s m args below meth c s₁ Bd hml0 hP hK
  obtain ⟨rfl, hZ, hh⟩ := hP
  have hx := Bd.exec
  have hby := Bd.bytes
  have hml : c.maxLocals = 3 := hml0
  have hown : s.vm.findClass "java/lang/String" = some m.cls := findClass_of_methodNamed Bd.named
  have hnm := (name_of_methodNamed Bd.named Bd.method).1
  have X0 : Stand p l e ({ frames := 0, cells := 0, slots := 0, locals := 0 } : Room) s m #[(.ref a), (.ref a)] below meth c s₁ [] 0 0 := Stand.of_body Bd
  have e0 : s₁.heap = h0 := by rw [← hh, Bd.state]; rfl
  have N0 := Fr.nil Z.heap.size
  show own_G p e below (fun o_ s₂ => ∃ v_ L_, o_ = .returned v_ ∧ Q_eqs Z a h0 v_ s₂.heap L_ ∧ FrameEnd s o_ s₂ L_ ({ frames := 0, cells := 0, slots := 0, locals := 0 } : Room).cells ({ frames := 0, cells := 0, slots := 0, locals := 0 } : Room).slots) (s₁.setTop (entryFrame m #[(.ref a), (.ref a)] 3))
  refine own_go (s₁.setTop (mkF m 0 #[.val (.ref a), .val (.ref a), .unset] [])) (fun t_ k_ => castTop (own_ef_eqs m a) k_) ?_
  refine own_go (s₁.setTop (mkF m 1 #[.val (.ref a), .val (.ref a), .unset] [(.ref a)])) (fun t_ k_ => XS.aloadN X0.here hx rfl (hb hby own_d_jdk_42_method_66_0) rfl rfl k_) ?_
  refine own_go (s₁.setTop (mkF m 2 #[.val (.ref a), .val (.ref a), .unset] [(.ref a), (.ref a)])) (fun t_ k_ => XS.aloadN X0.here hx rfl (hb hby own_d_jdk_42_method_66_1) rfl rfl k_) ?_
  refine own_go (s₁.setTop (mkF m 5 #[.val (.ref a), .val (.ref a), .unset] [])) (fun t_ k_ => Jvm.RoadKit.acmp (g := (mkF m 2 #[.val (.ref a), .val (.ref a), .unset] [(.ref a), (.ref a)])) X0 hx rfl rfl rfl (pc0 := 2) (pc' := 5) (same := true) rfl (hb hby own_d_jdk_42_method_66_2) rfl (decide_eq_true rfl) (by decide) (by decide) k_) ?_
  refine own_go (s₁.setTop (mkF m 6 #[.val (.ref a), .val (.ref a), .unset] [(.int (1 : Int32))])) (fun t_ k_ => XS.iconst X0.here hx rfl (hb hby own_d_jdk_42_method_66_5) k_) ?_
  obtain ⟨fs, hr, hrun, hended, hW, hsame⟩ := X0.leave (v := some (.int (nar .boolean (1 : Int32)))) (fun h => by rw [Bd.returns] at h; cases h)
  refine ⟨_, _, retN X0 hx (t := .boolean) Bd.returns (by simp) (hb hby own_d_jdk_42_method_66_6) hr, hrun, hended, _, _, rfl, ?_, ⟨_, rfl⟩, hW, hsame.mono (by decide) (by decide)⟩
  show Q_eqs Z a h0 _ s₁.heap _
  exact ⟨rfl, N0, e0⟩
theorem own_ef_of (m : MethodId) (o : Addr) : entryFrame m #[(.ref o)] 4 = mkF m 0 #[.val (.ref o), .unset, .unset, .unset] [] := by first | (simp [entryFrame, mkF, argsToLocals, Value.category]; done) | rfl
theorem own_d_prog_7_method_2_0 : decode prog_7_method_2_code 0 = .ok (.aload_n 0, 1) := by decide +kernel
theorem own_d_prog_7_method_2_1 : decode prog_7_method_2_code 1 = .ok (.ldc 13, 2) := by decide +kernel
theorem own_d_prog_7_method_2_3 : decode prog_7_method_2_code 3 = .ok (.invokestatic 14, 3) := by decide +kernel
theorem own_pd0 : parseMethodDescriptor "(Ljava/lang/Object;Ljava/lang/String;)Ljava/lang/Object;" = some ⟨[(.object "java/lang/Object"), (.object "java/lang/String")], some (.object "java/lang/Object")⟩ := by decide +kernel
theorem own_d_prog_7_method_2_6 : decode prog_7_method_2_code 6 = .ok (.pop, 1) := by decide +kernel
theorem own_d_prog_7_method_2_7 : decode prog_7_method_2_code 7 = .ok (.aload_n 0, 1) := by decide +kernel
theorem own_d_prog_7_method_2_8 : decode prog_7_method_2_code 8 = .ok (.invokevirtual 20, 3) := by decide +kernel
theorem own_pd1 : parseMethodDescriptor "()Z" = some ⟨[], some .boolean⟩ := by decide +kernel
theorem own_d_prog_7_method_2_11 : decode prog_7_method_2_code 11 = .ok (.ifCond .ne 16, 3) := by decide +kernel
theorem own_d_prog_7_method_2_14 : decode prog_7_method_2_code 14 = .ok (.aload_n 0, 1) := by decide +kernel
theorem own_d_prog_7_method_2_15 : decode prog_7_method_2_code 15 = .ok (.invokevirtual 26, 3) := by decide +kernel
theorem own_pd2 : parseMethodDescriptor "()I" = some ⟨[], some .int⟩ := by decide +kernel
theorem own_d_prog_7_method_2_18 : decode prog_7_method_2_code 18 = .ok (.bipush 64, 2) := by decide +kernel
theorem own_d_prog_7_method_2_20 : decode prog_7_method_2_code 20 = .ok (.if_icmp .gt 7, 3) := by decide +kernel
theorem own_d_prog_7_method_2_23 : decode prog_7_method_2_code 23 = .ok (.iconst 1, 1) := by decide +kernel
theorem own_d_prog_7_method_2_24 : decode prog_7_method_2_code 24 = .ok (.goto 4, 3) := by decide +kernel
theorem own_d_prog_7_method_2_28 : decode prog_7_method_2_code 28 = .ok (.istore_n 1, 1) := by decide +kernel
theorem own_d_prog_7_method_2_29 : decode prog_7_method_2_code 29 = .ok (.iconst 0, 1) := by decide +kernel
theorem own_d_prog_7_method_2_30 : decode prog_7_method_2_code 30 = .ok (.istore_n 2, 1) := by decide +kernel
theorem own_d_prog_7_method_2_31 : decode prog_7_method_2_code 31 = .ok (.iload_n 1, 1) := by decide +kernel
theorem own_d_prog_7_method_2_32 : decode prog_7_method_2_code 32 = .ok (.ifCond .eq 59, 3) := by decide +kernel
theorem own_d_prog_7_method_2_35 : decode prog_7_method_2_code 35 = .ok (.iload_n 2, 1) := by decide +kernel
theorem own_d_prog_7_method_2_36 : decode prog_7_method_2_code 36 = .ok (.aload_n 0, 1) := by decide +kernel
theorem own_d_prog_7_method_2_37 : decode prog_7_method_2_code 37 = .ok (.invokevirtual 26, 3) := by decide +kernel
theorem own_d_prog_7_method_2_40 : decode prog_7_method_2_code 40 = .ok (.if_icmp .ge 51, 3) := by decide +kernel
theorem own_d_prog_7_method_2_91 : decode prog_7_method_2_code 91 = .ok (.iload_n 1, 1) := by decide +kernel
theorem own_d_prog_7_method_2_92 : decode prog_7_method_2_code 92 = .ok (.ifCond .ne 13, 3) := by decide +kernel
theorem own_d_prog_7_method_2_105 : decode prog_7_method_2_code 105 = .ok (.new 8, 3) := by decide +kernel
theorem own_d_prog_7_method_2_108 : decode prog_7_method_2_code 108 = .ok (.dup, 1) := by decide +kernel
theorem own_d_prog_7_method_2_109 : decode prog_7_method_2_code 109 = .ok (.aload_n 0, 1) := by decide +kernel
theorem own_d_prog_7_method_2_110 : decode prog_7_method_2_code 110 = .ok (.invokespecial 41, 3) := by decide +kernel
theorem own_pd3 : parseMethodDescriptor "(Ljava/lang/String;)V" = some ⟨[(.object "java/lang/String")], none⟩ := by decide +kernel
theorem own_d_prog_7_method_2_113 : decode prog_7_method_2_code 113 = .ok (.areturn, 1) := by decide +kernel
theorem own_d_prog_7_method_2_43 : decode prog_7_method_2_code 43 = .ok (.aload_n 0, 1) := by decide +kernel
theorem own_d_prog_7_method_2_44 : decode prog_7_method_2_code 44 = .ok (.iload_n 2, 1) := by decide +kernel
theorem own_d_prog_7_method_2_45 : decode prog_7_method_2_code 45 = .ok (.invokevirtual 30, 3) := by decide +kernel
theorem own_pd4 : parseMethodDescriptor "(I)C" = some ⟨[.int], some .char⟩ := by decide +kernel
theorem own_d_prog_7_method_2_48 : decode prog_7_method_2_code 48 = .ok (.istore_n 3, 1) := by decide +kernel
theorem own_d_prog_7_method_2_49 : decode prog_7_method_2_code 49 = .ok (.iload_n 3, 1) := by decide +kernel
theorem own_d_prog_7_method_2_50 : decode prog_7_method_2_code 50 = .ok (.bipush 97, 2) := by decide +kernel
theorem own_d_prog_7_method_2_52 : decode prog_7_method_2_code 52 = .ok (.if_icmp .lt 9, 3) := by decide +kernel
theorem own_d_prog_7_method_2_55 : decode prog_7_method_2_code 55 = .ok (.iload_n 3, 1) := by decide +kernel
theorem own_d_prog_7_method_2_56 : decode prog_7_method_2_code 56 = .ok (.bipush 122, 2) := by decide +kernel
theorem own_d_prog_7_method_2_58 : decode prog_7_method_2_code 58 = .ok (.if_icmp .le 21, 3) := by decide +kernel
theorem own_d_prog_7_method_2_79 : decode prog_7_method_2_code 79 = .ok (.iconst 1, 1) := by decide +kernel
theorem own_d_prog_7_method_2_80 : decode prog_7_method_2_code 80 = .ok (.goto 4, 3) := by decide +kernel
theorem own_d_prog_7_method_2_84 : decode prog_7_method_2_code 84 = .ok (.istore_n 1, 1) := by decide +kernel
theorem own_d_prog_7_method_2_85 : decode prog_7_method_2_code 85 = .ok (.iinc 2 1, 3) := by decide +kernel
theorem own_d_prog_7_method_2_88 : decode prog_7_method_2_code 88 = .ok (.goto (-57), 3) := by decide +kernel
theorem own_d_prog_7_method_2_61 : decode prog_7_method_2_code 61 = .ok (.iload_n 3, 1) := by decide +kernel
theorem own_d_prog_7_method_2_62 : decode prog_7_method_2_code 62 = .ok (.bipush 48, 2) := by decide +kernel
theorem own_d_prog_7_method_2_64 : decode prog_7_method_2_code 64 = .ok (.if_icmp .lt 9, 3) := by decide +kernel
theorem own_d_prog_7_method_2_67 : decode prog_7_method_2_code 67 = .ok (.iload_n 3, 1) := by decide +kernel
theorem own_d_prog_7_method_2_68 : decode prog_7_method_2_code 68 = .ok (.bipush 57, 2) := by decide +kernel
theorem own_d_prog_7_method_2_70 : decode prog_7_method_2_code 70 = .ok (.if_icmp .le 9, 3) := by decide +kernel
theorem own_d_prog_7_method_2_73 : decode prog_7_method_2_code 73 = .ok (.iload_n 3, 1) := by decide +kernel
theorem own_d_prog_7_method_2_74 : decode prog_7_method_2_code 74 = .ok (.bipush 95, 2) := by decide +kernel
theorem own_d_prog_7_method_2_76 : decode prog_7_method_2_code 76 = .ok (.if_icmp .ne 7, 3) := by decide +kernel
def Q_of (Z : State) (o : Addr) (t1 : Addr) (kb : ClassId) (cs : List Int32) (cs0 : Int32) (sf0 : Value) (h0 : Heap) (v_ : Option Value) (h : Heap) (L_ : List Loc) : Prop := ∃ (r : Addr), v_ = some (.ref r) ∧ Fr Z.heap.size L_ ∧ (Keep h0 h [] ∧ Exa Z h r "com/example/salp/salp/model/EdgeType" ∧ Fld Z h r "com/example/salp/salp/model/EdgeType" "name" "Ljava/lang/String;" (.ref o))
set_option maxRecDepth 65536 in
set_option maxHeartbeats 40000000 in
theorem rm_of (l : Launch) (Z : State) (a0 : Array Value) (hw : ∀ d ∈ tables_1, d.before a0 Z = true) (ws : List Jvm.Cond) (o : Addr) (t1 : Addr) (kb : ClassId) (cs : List Int32) (cs0 : Int32) (sf0 : Value) (h0 : Heap) (O : Ext Z.heap h0) (w : own_W Z cs0 sf0) (X : Exa Z h0 o "java/lang/String") (Fv : Fld Z h0 o "java/lang/String" "value" "[B" (.ref t1)) (Fc : Fld Z h0 o "java/lang/String" "coder" "B" (.int 0)) (Fa : Arv Z h0 t1 kb .byte (Int32.ofNat cs.length) ((cs.map (fun c => c.toInt8.toInt32)).map Value.int) (.int 0)) (hok : ∀ c ∈ cs, own_ok c) (hl0 : 0 < cs.length) (hl1 : cs.length ≤ 64) :
    MetFree l (⟨"com/example/salp/salp/model/EdgeType", "of", "(Ljava/lang/String;)Lcom/example/salp/salp/model/EdgeType;"⟩ : MethodName) (head1 (Jvm.Cond.code (⟨"com/example/salp/salp/model/EdgeType", "of", "(Ljava/lang/String;)Lcom/example/salp/salp/model/EdgeType;"⟩ : MethodName) prog_7_method_2_code 4 (some (.object "com/example/salp/salp/model/EdgeType")) :: ws) ({ frames := 4, cells := 3, slots := 21, locals := 53 } : Room)) (fun a_ U_ => a_ = #[(.ref o)] ∧ Z.Warmed39 U_.vm ∧ U_.heap = h0) (fun _ _ _ _ _ => True) (fun _ U_ o_ U2_ => ∃ v_ L_, o_ = .returned v_ ∧ Q_of Z o t1 kb cs cs0 sf0 h0 v_ U2_.heap L_ ∧ ReturnedEndW U_ o_ U2_ L_ ({ frames := 4, cells := 3, slots := 21, locals := 53 } : Room).cells ({ frames := 4, cells := 3, slots := 21, locals := 53 } : Room).slots) := by
  refine MetFree.of_bodySF (plainFor_of_name own_pn2) hisR ?_
  intro p e s m args below meth c s₁ Bd hml0 hP hK
  obtain ⟨rfl, hZ, hh⟩ := hP
  have hx := Bd.exec
  have hby := Bd.bytes
  have hml : c.maxLocals = 4 := hml0
  have hown : s.vm.findClass "com/example/salp/salp/model/EdgeType" = some m.cls := findClass_of_methodNamed Bd.named
  have hnm := (name_of_methodNamed Bd.named Bd.method).1
  have X0 : Stand p l e ({ frames := 4, cells := 3, slots := 21, locals := 53 } : Room) (s.setVm s.vm) m #[(.ref o)] below meth c s₁ [] 0 0 := Stand.of_body Bd
  have e0 : s₁.heap = h0 := by rw [← hh, Bd.state]; rfl
  have N0 := Fr.nil Z.heap.size
  have hS : s.Since s.vm s.heap.size := (State.WarmedH.refl _).since _
  have hk : s.heap.size ≤ h0.size := Nat.le_of_eq (congrArg Array.size hh)
  have hZ : Z.Warmed39 (s.setVm s.vm).vm := hZ
  have hown : (s.setVm s.vm).vm.findClass "com/example/salp/salp/model/EdgeType" = some m.cls := hown
  show own_G p e below (fun o_ s₂ => ∃ v_ L_, o_ = .returned v_ ∧ Q_of Z o t1 kb cs cs0 sf0 h0 v_ s₂.heap L_ ∧ ReturnedEndW s o_ s₂ L_ ({ frames := 4, cells := 3, slots := 21, locals := 53 } : Room).cells ({ frames := 4, cells := 3, slots := 21, locals := 53 } : Room).slots) (s₁.setTop (entryFrame m #[(.ref o)] 4))
  refine own_go (s₁.setTop (mkF m 0 #[.val (.ref o), .unset, .unset, .unset] [])) (fun t_ k_ => castTop (own_ef_of m o) k_) ?_
  have w' := w
  obtain ⟨S_CS, n_CS, S_SF, r_SF⟩ := w'
  have hp : ∀ c ∈ cs, ¬ c < 0 ∧ ¬ (255 : Int32) < c := fun c hc => own_okb c (hok c hc)
  have hbd := own_up cs hp
  have hcd : StrChars.Road.CodA cs 0 (Int32.ofNat cs.length) ((cs.map (fun c => c.toInt8.toInt32)).map Value.int) := StrChars.Road.codOf rfl (fun c hc => (hp c hc).2)
  refine own_go (s₁.setTop (mkF m 1 #[.val (.ref o), .unset, .unset, .unset] [(.ref o)])) (fun t_ k_ => XS.aloadN X0.here hx rfl (hb hby own_d_prog_7_method_2_0) rfl rfl k_) ?_
  obtain ⟨a1, T1, h1, k1, X1, e1, E1, hS, hk, hZ, hown, st1⟩ := ldcS X0 hx hZ hown (hw _ (List.mem_of_getElem? (i := 39) rfl)) (fun d hd => hw d (own_sA d hd)) e0 hS hk (g := (mkF m 1 #[.val (.ref o), .unset, .unset, .unset] [(.ref o)])) rfl (hb hby own_d_prog_7_method_2_1) (n := 16) (by decide) (by decide) (by decide) (by decide)
  have K1 : Keep h0 h1 [] := (Keep.refl h0 []).ext E1
  have O1 := own_ext O E1
  refine own_go (T1.setTop (mkF m 3 #[.val (.ref o), .unset, .unset, .unset] [(.ref a1), (.ref o)])) (fun t_ k_ => st1 _ k_) ?_
  obtain ⟨_, _, ⟨T2, Lu2, ku2, nu2⟩, -, X2, ⟨Lc2, hQ2, lu2, yu2, zu2⟩, st2⟩ := Jvm.LawKit.callS X1 hx (y := (⟨"java/util/Objects", "requireNonNull", "(Ljava/lang/Object;Ljava/lang/String;)Ljava/lang/Object;"⟩ : MethodName)) hown (mvT hZ (hw _ (List.mem_of_getElem? (i := 42) rfl))) (mvT hZ (hw _ (List.mem_of_getElem? (i := 43) rfl))) (mvT hZ (hw _ (List.mem_of_getElem? (i := 44) rfl))) (mvT hZ (hw _ (List.mem_of_getElem? (i := 45) rfl))) (by decide) (backOf (W := 0) (rm_rn l Z a0 hw [] (o) (a1) h1 O1 ) hZ (hw _ (List.mem_of_getElem? (i := 45) rfl)) (hw _ (List.mem_of_getElem? (i := 44) rfl)) (by decide) (by decide)) (g := (mkF m 3 #[.val (.ref o), .unset, .unset, .unset] [(.ref a1), (.ref o)])) rfl (by rw [hml]; rfl) (argsL := [(.ref o), (.ref a1)]) (rest := []) (lenOf own_pd0 rfl) rfl (by show 2 * 0 + _ ≤ _; exact Nat.le_of_eq rfl) (hb hby own_d_prog_7_method_2_3) (fun _ _ => ⟨rfl, e1, (by decide : 2 + 0 ≤ _), (by decide : 20 + 0 ≤ _)⟩)
  dsimp only [Pt.U, Pt.locs, Pt.cells, Pt.slots] at X2 lu2 yu2 zu2 st2 hQ2
  subst lu2 yu2 zu2
  obtain ⟨rfl, N2q, e2⟩ := hQ2
  have N2 := Fr.app N0 N2q
  refine own_go (T2.setTop (mkF m 6 #[.val (.ref o), .unset, .unset, .unset] [(.ref o)])) (fun t_ k_ => st2 _ k_) ?_
  refine own_go (T2.setTop (mkF m 7 #[.val (.ref o), .unset, .unset, .unset] [])) (fun t_ k_ => XS.pop X2.here hx rfl (hb hby own_d_prog_7_method_2_6) rfl rfl k_) ?_
  refine own_go (T2.setTop (mkF m 8 #[.val (.ref o), .unset, .unset, .unset] [(.ref o)])) (fun t_ k_ => XS.aloadN X2.here hx rfl (hb hby own_d_prog_7_method_2_7) rfl rfl k_) ?_
  have Fz4 := (X.ext E1)
  have Fz5 := (Fv.ext E1)
  have Fz6 := (Fc.ext E1)
  have Fz7 := (Fa.ext E1)
  obtain ⟨cq3, kq3, q3a, q3b, q3c⟩ := isOf hZ e2 Fz4
  obtain ⟨_, _, ⟨T3, Lu3, ku3, nu3⟩, -, X3, ⟨Lc3, hQ3, lu3, yu3, zu3⟩, st3⟩ := X2.virtualBack hx (y := (⟨"java/lang/String", "isEmpty", "()Z"⟩ : MethodName)) (z := (⟨"java/lang/String", "isEmpty", "()Z"⟩ : MethodName)) hown (mvT hZ (hw _ (List.mem_of_getElem? (i := 46) rfl))) (mvT hZ (hw _ (List.mem_of_getElem? (i := 47) rfl))) (notFace_of_selects (args := #[]) (mvT hZ (hw _ (List.mem_of_getElem? (i := 49) rfl)))) (mvT hZ (hw _ (List.mem_of_getElem? (i := 49) rfl))) (mvT hZ (hw _ (List.mem_of_getElem? (i := 48) rfl))) (by decide) (StrChars.Road.empW (W := 0) hZ (fun d hd => hw d (own_wordsEmp d hd)) (kI := 4) (hw _ (List.mem_of_getElem? (i := 7) rfl)) Fz4 Fz5 Fz6 Fz7 hcd hbd (by omega) (by decide) (by decide)) q3a q3c (g := (mkF m 8 #[.val (.ref o), .unset, .unset, .unset] [(.ref o)])) rfl (by rw [hml]; rfl) (Steps.refl _) (argsL := []) (rest := []) (lenOf own_pd1 rfl) rfl (by show 2 * 0 + _ ≤ _; exact Nat.le_of_eq rfl) (hb hby own_d_prog_7_method_2_8) (fun _ _ => ⟨rfl, e2, (by decide : 2 + 0 ≤ _), (by decide : 20 + 0 ≤ _)⟩)
  dsimp only [Pt.U, Pt.locs, Pt.cells, Pt.slots] at X3 lu3 yu3 zu3 st3 hQ3
  subst lu3 yu3 zu3
  obtain ⟨rfl, rfl, e3⟩ := hQ3
  have N3q : Fr Z.heap.size ([] : List Loc) := Fr.nil _
  have N3 := Fr.app N2 N3q
  rw [if_neg (by omega : ¬ cs.length = 0)] at st3
  refine own_go (T3.setTop (mkF m 11 #[.val (.ref o), .unset, .unset, .unset] [(.int (0 : Int32))])) (fun t_ k_ => st3.trans k_) ?_
  refine own_go (T3.setTop (mkF m 14 #[.val (.ref o), .unset, .unset, .unset] [])) (fun t_ k_ => XS.ifNo X3.here hx rfl (hb hby own_d_prog_7_method_2_11) rfl ((if0 _ _).trans (teq (by decide : (0 : Int32) = (0 : Int32))).2) k_) ?_
  refine own_go (T3.setTop (mkF m 15 #[.val (.ref o), .unset, .unset, .unset] [(.ref o)])) (fun t_ k_ => XS.aloadN X3.here hx rfl (hb hby own_d_prog_7_method_2_14) rfl rfl k_) ?_
  obtain ⟨cq8, kq8, q8a, q8b, q8c⟩ := isOf hZ e3 Fz4
  obtain ⟨_, _, ⟨T8, Lu8, ku8, nu8⟩, -, X8, ⟨Lc8, hQ8, lu8, yu8, zu8⟩, st8⟩ := X3.virtualBack hx (y := (⟨"java/lang/String", "length", "()I"⟩ : MethodName)) (z := (⟨"java/lang/String", "length", "()I"⟩ : MethodName)) hown (mvT hZ (hw _ (List.mem_of_getElem? (i := 51) rfl))) (mvT hZ (hw _ (List.mem_of_getElem? (i := 52) rfl))) (notFace_of_selects (args := #[]) (mvT hZ (hw _ (List.mem_of_getElem? (i := 54) rfl)))) (mvT hZ (hw _ (List.mem_of_getElem? (i := 54) rfl))) (mvT hZ (hw _ (List.mem_of_getElem? (i := 53) rfl))) (by decide) (StrChars.Road.lenW (W := 0) hZ (fun d hd => hw d (own_wordsLen d hd)) (kI := 4) (hw _ (List.mem_of_getElem? (i := 7) rfl)) Fz4 Fz5 Fz6 Fz7 hcd hbd (S_CS.ext O1) n_CS (by omega) (by decide) (by decide)) q8a q8c (g := (mkF m 15 #[.val (.ref o), .unset, .unset, .unset] [(.ref o)])) rfl (by rw [hml]; rfl) (Steps.refl _) (argsL := []) (rest := []) (lenOf own_pd2 rfl) rfl (by show 2 * 0 + _ ≤ _; exact Nat.le_of_eq rfl) (hb hby own_d_prog_7_method_2_15) (fun _ _ => ⟨rfl, e3, (by decide : 2 + 0 ≤ _), (by decide : 20 + 0 ≤ _)⟩)
  dsimp only [Pt.U, Pt.locs, Pt.cells, Pt.slots] at X8 lu8 yu8 zu8 st8 hQ8
  subst lu8 yu8 zu8
  obtain ⟨rfl, rfl, e8⟩ := hQ8
  have N8q : Fr Z.heap.size ([] : List Loc) := Fr.nil _
  have N8 := Fr.app N3 N8q
  refine own_go (T8.setTop (mkF m 18 #[.val (.ref o), .unset, .unset, .unset] [(.int (Int32.ofNat cs.length))])) (fun t_ k_ => st8.trans k_) ?_
  refine own_go (T8.setTop (mkF m 20 #[.val (.ref o), .unset, .unset, .unset] [(.int (64 : Int32)), (.int (Int32.ofNat cs.length))])) (fun t_ k_ => XS.bipush X8.here hx rfl (hb hby own_d_prog_7_method_2_18) k_) ?_
  refine own_go (T8.setTop (mkF m 23 #[.val (.ref o), .unset, .unset, .unset] [])) (fun t_ k_ => XS.icmpNo X8.here hx rfl (hb hby own_d_prog_7_method_2_20) rfl (flt (own_len64 _ hl1)).2.2.1 k_) ?_
  refine own_go (T8.setTop (mkF m 24 #[.val (.ref o), .unset, .unset, .unset] [(.int (1 : Int32))])) (fun t_ k_ => XS.iconst X8.here hx rfl (hb hby own_d_prog_7_method_2_23) k_) ?_
  refine own_go (T8.setTop (mkF m 28 #[.val (.ref o), .unset, .unset, .unset] [(.int (1 : Int32))])) (fun t_ k_ => XS.goto X8.here hx rfl (pc0 := 24) (pc' := 28) rfl (hb hby own_d_prog_7_method_2_24) (by decide) (by decide) k_) ?_
  refine own_go (T8.setTop (mkF m 29 #[.val (.ref o), .val (.int (1 : Int32)), .unset, .unset] [])) (fun t_ k_ => XS.istoreN X8.here hx rfl (hb hby own_d_prog_7_method_2_28) rfl (l' := #[.val (.ref o), .val (.int (1 : Int32)), .unset, .unset]) rfl k_) ?_
  refine own_go (T8.setTop (mkF m 30 #[.val (.ref o), .val (.int (1 : Int32)), .unset, .unset] [(.int (0 : Int32))])) (fun t_ k_ => XS.iconst X8.here hx rfl (hb hby own_d_prog_7_method_2_29) k_) ?_
  refine own_go (T8.setTop (mkF m 31 #[.val (.ref o), .val (.int (1 : Int32)), .val (.int (0 : Int32)), .unset] [])) (fun t_ k_ => XS.istoreN X8.here hx rfl (hb hby own_d_prog_7_method_2_30) rfl (l' := #[.val (.ref o), .val (.int (1 : Int32)), .val (.int (0 : Int32)), .unset]) rfl k_) ?_
  have LP : ∀ (j : Nat) (i : Nat) (hi : i + j = cs.length) (v9 : Vm) (k9 : Nat) (hS : s.Since v9 k9) (hk : k9 ≤ h1.size) (hZ : Z.Warmed39 (s.setVm v9).vm) (hown : (s.setVm v9).vm.findClass "com/example/salp/salp/model/EdgeType" = some m.cls) (T9 : State) (l9 : List Loc) (X9 : Stand p l e ({ frames := 4, cells := 3, slots := 21, locals := 53 } : Room) (s.setVm v9) m #[(.ref o)] below meth c T9 l9 2 20) (N9 : Fr Z.heap.size l9) (e9 : T9.heap = h1) (c9 : Int32), own_G p e below (fun o_ s₂ => ∃ v_ L_, o_ = .returned v_ ∧ Q_of Z o t1 kb cs cs0 sf0 h0 v_ s₂.heap L_ ∧ ReturnedEndW s o_ s₂ L_ ({ frames := 4, cells := 3, slots := 21, locals := 53 } : Room).cells ({ frames := 4, cells := 3, slots := 21, locals := 53 } : Room).slots) (T9.setTop (mkF m 31 #[.val (.ref o), .val (.int (1 : Int32)), .val (.int (Int32.ofNat i)), .val (.int c9)] [])) := by
    intro j
    induction j with
    | zero =>
      intro i hi v9 k9 hS hk hZ hown T9 l9 X9 N9 e9 c9
      refine own_go (T9.setTop (mkF m 32 #[.val (.ref o), .val (.int (1 : Int32)), .val (.int (Int32.ofNat i)), .val (.int c9)] [(.int (1 : Int32))])) (fun t_ k_ => XS.iloadN X9.here hx rfl (hb hby own_d_prog_7_method_2_31) rfl k_) ?_
      refine own_go (T9.setTop (mkF m 35 #[.val (.ref o), .val (.int (1 : Int32)), .val (.int (Int32.ofNat i)), .val (.int c9)] [])) (fun t_ k_ => XS.ifNo X9.here hx rfl (hb hby own_d_prog_7_method_2_32) rfl ((if0 _ _).trans (feq (by decide : ¬ ((1 : Int32) = (0 : Int32)))).1) k_) ?_
      refine own_go (T9.setTop (mkF m 36 #[.val (.ref o), .val (.int (1 : Int32)), .val (.int (Int32.ofNat i)), .val (.int c9)] [(.int (Int32.ofNat i))])) (fun t_ k_ => XS.iloadN X9.here hx rfl (hb hby own_d_prog_7_method_2_35) rfl k_) ?_
      refine own_go (T9.setTop (mkF m 37 #[.val (.ref o), .val (.int (1 : Int32)), .val (.int (Int32.ofNat i)), .val (.int c9)] [(.ref o), (.int (Int32.ofNat i))])) (fun t_ k_ => XS.aloadN X9.here hx rfl (hb hby own_d_prog_7_method_2_36) rfl rfl k_) ?_
      obtain ⟨cq10, kq10, q10a, q10b, q10c⟩ := isOf hZ e9 Fz4
      obtain ⟨_, _, ⟨T10, Lu10, ku10, nu10⟩, -, X10, ⟨Lc10, hQ10, lu10, yu10, zu10⟩, st10⟩ := X9.virtualBack hx (y := (⟨"java/lang/String", "length", "()I"⟩ : MethodName)) (z := (⟨"java/lang/String", "length", "()I"⟩ : MethodName)) hown (mvT hZ (hw _ (List.mem_of_getElem? (i := 51) rfl))) (mvT hZ (hw _ (List.mem_of_getElem? (i := 52) rfl))) (notFace_of_selects (args := #[]) (mvT hZ (hw _ (List.mem_of_getElem? (i := 54) rfl)))) (mvT hZ (hw _ (List.mem_of_getElem? (i := 54) rfl))) (mvT hZ (hw _ (List.mem_of_getElem? (i := 53) rfl))) (by decide) (StrChars.Road.lenW (W := 1) hZ (fun d hd => hw d (own_wordsLen d hd)) (kI := 4) (hw _ (List.mem_of_getElem? (i := 7) rfl)) Fz4 Fz5 Fz6 Fz7 hcd hbd (S_CS.ext O1) n_CS (by omega) (by decide) (by decide)) q10a q10c (g := (mkF m 37 #[.val (.ref o), .val (.int (1 : Int32)), .val (.int (Int32.ofNat i)), .val (.int c9)] [(.ref o), (.int (Int32.ofNat i))])) rfl (by rw [hml]; rfl) (Steps.refl _) (argsL := []) (rest := [(.int (Int32.ofNat i))]) (lenOf own_pd2 rfl) rfl (by show 2 * 0 + _ ≤ _; exact Nat.le_of_eq rfl) (hb hby own_d_prog_7_method_2_37) (fun _ _ => ⟨rfl, e9, (by decide : 2 + 0 ≤ _), (by decide : 20 + 0 ≤ _)⟩)
      dsimp only [Pt.U, Pt.locs, Pt.cells, Pt.slots] at X10 lu10 yu10 zu10 st10 hQ10
      subst lu10 yu10 zu10
      obtain ⟨rfl, rfl, e10⟩ := hQ10
      have N10q : Fr Z.heap.size ([] : List Loc) := Fr.nil _
      have N10 := Fr.app N9 N10q
      refine own_go (T10.setTop (mkF m 40 #[.val (.ref o), .val (.int (1 : Int32)), .val (.int (Int32.ofNat i)), .val (.int c9)] [(.int (Int32.ofNat cs.length)), (.int (Int32.ofNat i))])) (fun t_ k_ => st10.trans k_) ?_
      have hie : i = cs.length := by omega
      refine own_go (T10.setTop (mkF m 91 #[.val (.ref o), .val (.int (1 : Int32)), .val (.int (Int32.ofNat i)), .val (.int c9)] [])) (fun t_ k_ => XS.icmpYes X10.here hx rfl (pc0 := 40) (pc' := 91) rfl (hb hby own_d_prog_7_method_2_40) rfl (flt (by rw [hie]; exact own_end _)).2.1 (by decide) (by decide) k_) ?_
      refine own_go (T10.setTop (mkF m 92 #[.val (.ref o), .val (.int (1 : Int32)), .val (.int (Int32.ofNat i)), .val (.int c9)] [(.int (1 : Int32))])) (fun t_ k_ => XS.iloadN X10.here hx rfl (hb hby own_d_prog_7_method_2_91) rfl k_) ?_
      refine own_go (T10.setTop (mkF m 105 #[.val (.ref o), .val (.int (1 : Int32)), .val (.int (Int32.ofNat i)), .val (.int c9)] [])) (fun t_ k_ => XS.ifYes X10.here hx rfl (pc0 := 92) (pc' := 105) rfl (hb hby own_d_prog_7_method_2_92) rfl ((if0 _ _).trans (feq (by decide : ¬ ((1 : Int32) = (0 : Int32)))).2) (by decide) (by decide) k_) ?_
      obtain ⟨T11, h11, X11, e11, E11, A11, D11, U11, st11⟩ := newO X10 hx hZ hown (hw _ (List.mem_of_getElem? (i := 83) rfl)) (hw _ (List.mem_of_getElem? (i := 84) rfl)) (hw _ (List.mem_of_getElem? (i := 37) rfl)) e10 (g := (mkF m 105 #[.val (.ref o), .val (.int (1 : Int32)), .val (.int (Int32.ofNat i)), .val (.int c9)] [])) rfl (hb hby own_d_prog_7_method_2_105) (by decide) (by decide)
      obtain ⟨b11, g11⟩ : ∃ z, z = h1.size := ⟨_, rfl⟩
      rw [← g11] at A11 D11 U11 st11
      have ge_b11 : Z.heap.size ≤ b11 := Nat.le_trans O1.1 (Nat.le_of_eq g11.symm)
      have sz_b11 : h0.size ≤ b11 := Nat.le_trans K1.1 (Nat.le_of_eq g11.symm)
      have K11 : Keep h0 h11 [] := K1.ext E11
      have O11 := own_ext O1 E11
      have Fname_11 : Fld Z h11 b11 "com/example/salp/salp/model/EdgeType" "name" "Ljava/lang/String;" .null := D11 (Or.inr (hw _ (List.mem_of_getElem? (i := 90) rfl))) (ty := (.object "java/lang/String")) (by decide)
      refine own_go (T11.setTop (mkF m 108 #[.val (.ref o), .val (.int (1 : Int32)), .val (.int (Int32.ofNat i)), .val (.int c9)] [(.ref b11)])) (fun t_ k_ => st11 _ k_) ?_
      refine own_go (T11.setTop (mkF m 109 #[.val (.ref o), .val (.int (1 : Int32)), .val (.int (Int32.ofNat i)), .val (.int c9)] [(.ref b11), (.ref b11)])) (fun t_ k_ => XS.dup X11.here hx rfl (hb hby own_d_prog_7_method_2_108) rfl rfl k_) ?_
      refine own_go (T11.setTop (mkF m 110 #[.val (.ref o), .val (.int (1 : Int32)), .val (.int (Int32.ofNat i)), .val (.int c9)] [(.ref o), (.ref b11), (.ref b11)])) (fun t_ k_ => XS.aloadN X11.here hx rfl (hb hby own_d_prog_7_method_2_109) rfl rfl k_) ?_
      obtain ⟨_, _, ⟨T12, Lu12, ku12, nu12⟩, -, X12, ⟨Lc12, hQ12, lu12, yu12, zu12⟩, st12⟩ := X11.specialBack hx (y := (⟨"com/example/salp/salp/model/EdgeType", "<init>", "(Ljava/lang/String;)V"⟩ : MethodName)) rfl hown (mvT hZ (hw _ (List.mem_of_getElem? (i := 85) rfl))) (mvT hZ (hw _ (List.mem_of_getElem? (i := 86) rfl))) (mvT hZ (hw _ (List.mem_of_getElem? (i := 87) rfl))) (by decide) (backOf (W := 1) (rm_ei l Z a0 hw [] (b11) (o) h11 O11 A11 Fname_11 ge_b11) hZ (hw _ (List.mem_of_getElem? (i := 87) rfl)) (hw _ (List.mem_of_getElem? (i := 37) rfl)) (by decide) (by decide)) (g := (mkF m 110 #[.val (.ref o), .val (.int (1 : Int32)), .val (.int (Int32.ofNat i)), .val (.int c9)] [(.ref o), (.ref b11), (.ref b11)])) rfl (by rw [hml]; rfl) (Steps.refl _) (a := b11) (argsL := [(.ref o)]) (rest := [(.ref b11)]) (lenOf own_pd3 rfl) rfl (by show 2 * 0 + _ ≤ _; exact Nat.le_of_eq rfl) (hb hby own_d_prog_7_method_2_110) (fun _ _ => ⟨rfl, e11, (by decide : 3 + 0 ≤ _), (by decide : 21 + 0 ≤ _)⟩)
      dsimp only [Pt.U, Pt.locs, Pt.cells, Pt.slots] at X12 lu12 yu12 zu12 st12 hQ12
      subst lu12 yu12 zu12
      obtain ⟨rfl, N12q, K12q, X12q, F12q⟩ := hQ12
      have N12 := Fr.app N10 N12q
      have O12 := own_extK O11 K12q (allS ge_b11 all0)
      have KK12 : Keep h0 T12.heap [] := K11.trans K12q (allS (Or.inr sz_b11) all0)
      refine own_go (T12.setTop (mkF m 113 #[.val (.ref o), .val (.int (1 : Int32)), .val (.int (Int32.ofNat i)), .val (.int c9)] [(.ref b11)])) (fun t_ k_ => st12.trans k_) ?_
      obtain ⟨fs, hr, hrun, hended, hRW⟩ := X12.leaveW hS (by rw [show T12.heap = T12.heap from rfl]; exact (Nat.le_trans (Nat.le_trans hk E11.1) K12q.1)) (v := some (.ref b11)) (fun h => by rw [Bd.returns] at h; cases h)
      refine ⟨_, _, Jvm.RoadKit.retOut X12 hx Bd.returns rfl (Or.inr (Or.inr (Or.inr (Or.inr ⟨rfl, rfl, rfl⟩)))) (hb hby own_d_prog_7_method_2_113) hr, hrun, hended, _, _, rfl, ?_, hRW.1, hRW.2.1, hRW.2.2.1, hRW.2.2.2.mono (by decide) (by decide)⟩
      show Q_of Z o t1 kb cs cs0 sf0 h0 _ T12.heap _
      exact ⟨_, rfl, N12, KK12, X12q, F12q⟩
    | succ j ih =>
      intro i hi v9 k9 hS hk hZ hown T9 l9 X9 N9 e9 c9
      refine own_go (T9.setTop (mkF m 32 #[.val (.ref o), .val (.int (1 : Int32)), .val (.int (Int32.ofNat i)), .val (.int c9)] [(.int (1 : Int32))])) (fun t_ k_ => XS.iloadN X9.here hx rfl (hb hby own_d_prog_7_method_2_31) rfl k_) ?_
      refine own_go (T9.setTop (mkF m 35 #[.val (.ref o), .val (.int (1 : Int32)), .val (.int (Int32.ofNat i)), .val (.int c9)] [])) (fun t_ k_ => XS.ifNo X9.here hx rfl (hb hby own_d_prog_7_method_2_32) rfl ((if0 _ _).trans (feq (by decide : ¬ ((1 : Int32) = (0 : Int32)))).1) k_) ?_
      refine own_go (T9.setTop (mkF m 36 #[.val (.ref o), .val (.int (1 : Int32)), .val (.int (Int32.ofNat i)), .val (.int c9)] [(.int (Int32.ofNat i))])) (fun t_ k_ => XS.iloadN X9.here hx rfl (hb hby own_d_prog_7_method_2_35) rfl k_) ?_
      refine own_go (T9.setTop (mkF m 37 #[.val (.ref o), .val (.int (1 : Int32)), .val (.int (Int32.ofNat i)), .val (.int c9)] [(.ref o), (.int (Int32.ofNat i))])) (fun t_ k_ => XS.aloadN X9.here hx rfl (hb hby own_d_prog_7_method_2_36) rfl rfl k_) ?_
      obtain ⟨cq13, kq13, q13a, q13b, q13c⟩ := isOf hZ e9 Fz4
      obtain ⟨_, _, ⟨T13, Lu13, ku13, nu13⟩, -, X13, ⟨Lc13, hQ13, lu13, yu13, zu13⟩, st13⟩ := X9.virtualBack hx (y := (⟨"java/lang/String", "length", "()I"⟩ : MethodName)) (z := (⟨"java/lang/String", "length", "()I"⟩ : MethodName)) hown (mvT hZ (hw _ (List.mem_of_getElem? (i := 51) rfl))) (mvT hZ (hw _ (List.mem_of_getElem? (i := 52) rfl))) (notFace_of_selects (args := #[]) (mvT hZ (hw _ (List.mem_of_getElem? (i := 54) rfl)))) (mvT hZ (hw _ (List.mem_of_getElem? (i := 54) rfl))) (mvT hZ (hw _ (List.mem_of_getElem? (i := 53) rfl))) (by decide) (StrChars.Road.lenW (W := 1) hZ (fun d hd => hw d (own_wordsLen d hd)) (kI := 4) (hw _ (List.mem_of_getElem? (i := 7) rfl)) Fz4 Fz5 Fz6 Fz7 hcd hbd (S_CS.ext O1) n_CS (by omega) (by decide) (by decide)) q13a q13c (g := (mkF m 37 #[.val (.ref o), .val (.int (1 : Int32)), .val (.int (Int32.ofNat i)), .val (.int c9)] [(.ref o), (.int (Int32.ofNat i))])) rfl (by rw [hml]; rfl) (Steps.refl _) (argsL := []) (rest := [(.int (Int32.ofNat i))]) (lenOf own_pd2 rfl) rfl (by show 2 * 0 + _ ≤ _; exact Nat.le_of_eq rfl) (hb hby own_d_prog_7_method_2_37) (fun _ _ => ⟨rfl, e9, (by decide : 2 + 0 ≤ _), (by decide : 20 + 0 ≤ _)⟩)
      dsimp only [Pt.U, Pt.locs, Pt.cells, Pt.slots] at X13 lu13 yu13 zu13 st13 hQ13
      subst lu13 yu13 zu13
      obtain ⟨rfl, rfl, e13⟩ := hQ13
      have N13q : Fr Z.heap.size ([] : List Loc) := Fr.nil _
      have N13 := Fr.app N9 N13q
      refine own_go (T13.setTop (mkF m 40 #[.val (.ref o), .val (.int (1 : Int32)), .val (.int (Int32.ofNat i)), .val (.int c9)] [(.int (Int32.ofNat cs.length)), (.int (Int32.ofNat i))])) (fun t_ k_ => st13.trans k_) ?_
      refine own_go (T13.setTop (mkF m 43 #[.val (.ref o), .val (.int (1 : Int32)), .val (.int (Int32.ofNat i)), .val (.int c9)] [])) (fun t_ k_ => XS.icmpNo X13.here hx rfl (hb hby own_d_prog_7_method_2_40) rfl (tlt (own_idx i cs.length (by omega) (by omega))).2.1 k_) ?_
      refine own_go (T13.setTop (mkF m 44 #[.val (.ref o), .val (.int (1 : Int32)), .val (.int (Int32.ofNat i)), .val (.int c9)] [(.ref o)])) (fun t_ k_ => XS.aloadN X13.here hx rfl (hb hby own_d_prog_7_method_2_43) rfl rfl k_) ?_
      refine own_go (T13.setTop (mkF m 45 #[.val (.ref o), .val (.int (1 : Int32)), .val (.int (Int32.ofNat i)), .val (.int c9)] [(.int (Int32.ofNat i)), (.ref o)])) (fun t_ k_ => XS.iloadN X13.here hx rfl (hb hby own_d_prog_7_method_2_44) rfl k_) ?_
      obtain ⟨cq14, kq14, q14a, q14b, q14c⟩ := isOf hZ e13 Fz4
      obtain ⟨_, _, ⟨T14, Lu14, ku14, nu14⟩, -, X14, ⟨Lc14, hQ14, lu14, yu14, zu14⟩, st14⟩ := X13.virtualBack hx (y := (⟨"java/lang/String", "charAt", "(I)C"⟩ : MethodName)) (z := (⟨"java/lang/String", "charAt", "(I)C"⟩ : MethodName)) hown (mvT hZ (hw _ (List.mem_of_getElem? (i := 61) rfl))) (mvT hZ (hw _ (List.mem_of_getElem? (i := 62) rfl))) (notFace_of_selects (args := #[]) (mvT hZ (hw _ (List.mem_of_getElem? (i := 64) rfl)))) (mvT hZ (hw _ (List.mem_of_getElem? (i := 64) rfl))) (mvT hZ (hw _ (List.mem_of_getElem? (i := 63) rfl))) (by decide) (StrChars.Road.chN (W := 0) hZ (fun d hd => hw d (own_wordsChN d hd)) (kI := 4) (hw _ (List.mem_of_getElem? (i := 7) rfl)) Fz4 Fz5 Fz6 Fz7 hcd hbd (S_CS.ext O1) n_CS (S_SF.ext O1) r_SF (by omega) (i := i) (j := (Int32.ofNat i)) (by omega) rfl (by decide) (by decide)) q14a q14c (g := (mkF m 45 #[.val (.ref o), .val (.int (1 : Int32)), .val (.int (Int32.ofNat i)), .val (.int c9)] [(.int (Int32.ofNat i)), (.ref o)])) rfl (by rw [hml]; rfl) (Steps.refl _) (argsL := [(.int (Int32.ofNat i))]) (rest := []) (lenOf own_pd4 rfl) rfl (by show 2 * 0 + _ ≤ _; exact Nat.le_of_eq rfl) (hb hby own_d_prog_7_method_2_45) (fun _ _ => ⟨rfl, e13, (by decide : 2 + 0 ≤ _), (by decide : 20 + 0 ≤ _)⟩)
      dsimp only [Pt.U, Pt.locs, Pt.cells, Pt.slots] at X14 lu14 yu14 zu14 st14 hQ14
      subst lu14 yu14 zu14
      obtain ⟨rfl, rfl, e14⟩ := hQ14
      have N14q : Fr Z.heap.size ([] : List Loc) := Fr.nil _
      have N14 := Fr.app N13 N14q
      refine own_go (T14.setTop (mkF m 48 #[.val (.ref o), .val (.int (1 : Int32)), .val (.int (Int32.ofNat i)), .val (.int c9)] [(.int (cs.getD i 0))])) (fun t_ k_ => st14.trans k_) ?_
      refine own_go (T14.setTop (mkF m 49 #[.val (.ref o), .val (.int (1 : Int32)), .val (.int (Int32.ofNat i)), .val (.int (cs.getD i 0))] [])) (fun t_ k_ => XS.istoreN X14.here hx rfl (hb hby own_d_prog_7_method_2_48) rfl (l' := #[.val (.ref o), .val (.int (1 : Int32)), .val (.int (Int32.ofNat i)), .val (.int (cs.getD i 0))]) rfl k_) ?_
      have hch := own_get cs hok i (by omega)
      obtain ⟨d, hd⟩ : ∃ z, z = cs.getD i 0 := ⟨_, rfl⟩
      rw [← hd] at hch
      rw [← hd]
      rcases hch with ⟨q1, q2⟩ | ⟨q1, q2, q3⟩ | q1
      ·
        refine own_go (T14.setTop (mkF m 50 #[.val (.ref o), .val (.int (1 : Int32)), .val (.int (Int32.ofNat i)), .val (.int d)] [(.int d)])) (fun t_ k_ => XS.iloadN X14.here hx rfl (hb hby own_d_prog_7_method_2_49) rfl k_) ?_
        refine own_go (T14.setTop (mkF m 52 #[.val (.ref o), .val (.int (1 : Int32)), .val (.int (Int32.ofNat i)), .val (.int d)] [(.int (97 : Int32)), (.int d)])) (fun t_ k_ => XS.bipush X14.here hx rfl (hb hby own_d_prog_7_method_2_50) k_) ?_
        refine own_go (T14.setTop (mkF m 55 #[.val (.ref o), .val (.int (1 : Int32)), .val (.int (Int32.ofNat i)), .val (.int d)] [])) (fun t_ k_ => XS.icmpNo X14.here hx rfl (hb hby own_d_prog_7_method_2_52) rfl (flt q1).1 k_) ?_
        refine own_go (T14.setTop (mkF m 56 #[.val (.ref o), .val (.int (1 : Int32)), .val (.int (Int32.ofNat i)), .val (.int d)] [(.int d)])) (fun t_ k_ => XS.iloadN X14.here hx rfl (hb hby own_d_prog_7_method_2_55) rfl k_) ?_
        refine own_go (T14.setTop (mkF m 58 #[.val (.ref o), .val (.int (1 : Int32)), .val (.int (Int32.ofNat i)), .val (.int d)] [(.int (122 : Int32)), (.int d)])) (fun t_ k_ => XS.bipush X14.here hx rfl (hb hby own_d_prog_7_method_2_56) k_) ?_
        refine own_go (T14.setTop (mkF m 79 #[.val (.ref o), .val (.int (1 : Int32)), .val (.int (Int32.ofNat i)), .val (.int d)] [])) (fun t_ k_ => XS.icmpYes X14.here hx rfl (pc0 := 58) (pc' := 79) rfl (hb hby own_d_prog_7_method_2_58) rfl (flt q2).2.2.2 (by decide) (by decide) k_) ?_
        refine own_go (T14.setTop (mkF m 80 #[.val (.ref o), .val (.int (1 : Int32)), .val (.int (Int32.ofNat i)), .val (.int d)] [(.int (1 : Int32))])) (fun t_ k_ => XS.iconst X14.here hx rfl (hb hby own_d_prog_7_method_2_79) k_) ?_
        refine own_go (T14.setTop (mkF m 84 #[.val (.ref o), .val (.int (1 : Int32)), .val (.int (Int32.ofNat i)), .val (.int d)] [(.int (1 : Int32))])) (fun t_ k_ => XS.goto X14.here hx rfl (pc0 := 80) (pc' := 84) rfl (hb hby own_d_prog_7_method_2_80) (by decide) (by decide) k_) ?_
        refine own_go (T14.setTop (mkF m 85 #[.val (.ref o), .val (.int (1 : Int32)), .val (.int (Int32.ofNat i)), .val (.int d)] [])) (fun t_ k_ => XS.istoreN X14.here hx rfl (hb hby own_d_prog_7_method_2_84) rfl (l' := #[.val (.ref o), .val (.int (1 : Int32)), .val (.int (Int32.ofNat i)), .val (.int d)]) rfl k_) ?_
        refine own_go (T14.setTop (mkF m 88 #[.val (.ref o), .val (.int (1 : Int32)), .val (.int ((Int32.ofNat i) + (1 : Int32))), .val (.int d)] [])) (fun t_ k_ => XS.iinc X14.here hx rfl (hb hby own_d_prog_7_method_2_85) rfl (l' := #[.val (.ref o), .val (.int (1 : Int32)), .val (.int ((Int32.ofNat i) + (1 : Int32))), .val (.int d)]) rfl k_) ?_
        refine own_go (T14.setTop (mkF m 31 #[.val (.ref o), .val (.int (1 : Int32)), .val (.int ((Int32.ofNat i) + (1 : Int32))), .val (.int d)] [])) (fun t_ k_ => XS.goto X14.here hx rfl (pc0 := 88) (pc' := 31) rfl (hb hby own_d_prog_7_method_2_88) (by decide) (by decide) k_) ?_
        rw [own_next i]
        exact ih  (i + 1) (by omega) _ _ hS hk hZ hown _ _ X14 N14 e14 _
      ·
        refine own_go (T14.setTop (mkF m 50 #[.val (.ref o), .val (.int (1 : Int32)), .val (.int (Int32.ofNat i)), .val (.int d)] [(.int d)])) (fun t_ k_ => XS.iloadN X14.here hx rfl (hb hby own_d_prog_7_method_2_49) rfl k_) ?_
        refine own_go (T14.setTop (mkF m 52 #[.val (.ref o), .val (.int (1 : Int32)), .val (.int (Int32.ofNat i)), .val (.int d)] [(.int (97 : Int32)), (.int d)])) (fun t_ k_ => XS.bipush X14.here hx rfl (hb hby own_d_prog_7_method_2_50) k_) ?_
        refine own_go (T14.setTop (mkF m 61 #[.val (.ref o), .val (.int (1 : Int32)), .val (.int (Int32.ofNat i)), .val (.int d)] [])) (fun t_ k_ => XS.icmpYes X14.here hx rfl (pc0 := 52) (pc' := 61) rfl (hb hby own_d_prog_7_method_2_52) rfl (tlt q3).1 (by decide) (by decide) k_) ?_
        refine own_go (T14.setTop (mkF m 62 #[.val (.ref o), .val (.int (1 : Int32)), .val (.int (Int32.ofNat i)), .val (.int d)] [(.int d)])) (fun t_ k_ => XS.iloadN X14.here hx rfl (hb hby own_d_prog_7_method_2_61) rfl k_) ?_
        refine own_go (T14.setTop (mkF m 64 #[.val (.ref o), .val (.int (1 : Int32)), .val (.int (Int32.ofNat i)), .val (.int d)] [(.int (48 : Int32)), (.int d)])) (fun t_ k_ => XS.bipush X14.here hx rfl (hb hby own_d_prog_7_method_2_62) k_) ?_
        refine own_go (T14.setTop (mkF m 67 #[.val (.ref o), .val (.int (1 : Int32)), .val (.int (Int32.ofNat i)), .val (.int d)] [])) (fun t_ k_ => XS.icmpNo X14.here hx rfl (hb hby own_d_prog_7_method_2_64) rfl (flt q1).1 k_) ?_
        refine own_go (T14.setTop (mkF m 68 #[.val (.ref o), .val (.int (1 : Int32)), .val (.int (Int32.ofNat i)), .val (.int d)] [(.int d)])) (fun t_ k_ => XS.iloadN X14.here hx rfl (hb hby own_d_prog_7_method_2_67) rfl k_) ?_
        refine own_go (T14.setTop (mkF m 70 #[.val (.ref o), .val (.int (1 : Int32)), .val (.int (Int32.ofNat i)), .val (.int d)] [(.int (57 : Int32)), (.int d)])) (fun t_ k_ => XS.bipush X14.here hx rfl (hb hby own_d_prog_7_method_2_68) k_) ?_
        refine own_go (T14.setTop (mkF m 79 #[.val (.ref o), .val (.int (1 : Int32)), .val (.int (Int32.ofNat i)), .val (.int d)] [])) (fun t_ k_ => XS.icmpYes X14.here hx rfl (pc0 := 70) (pc' := 79) rfl (hb hby own_d_prog_7_method_2_70) rfl (flt q2).2.2.2 (by decide) (by decide) k_) ?_
        refine own_go (T14.setTop (mkF m 80 #[.val (.ref o), .val (.int (1 : Int32)), .val (.int (Int32.ofNat i)), .val (.int d)] [(.int (1 : Int32))])) (fun t_ k_ => XS.iconst X14.here hx rfl (hb hby own_d_prog_7_method_2_79) k_) ?_
        refine own_go (T14.setTop (mkF m 84 #[.val (.ref o), .val (.int (1 : Int32)), .val (.int (Int32.ofNat i)), .val (.int d)] [(.int (1 : Int32))])) (fun t_ k_ => XS.goto X14.here hx rfl (pc0 := 80) (pc' := 84) rfl (hb hby own_d_prog_7_method_2_80) (by decide) (by decide) k_) ?_
        refine own_go (T14.setTop (mkF m 85 #[.val (.ref o), .val (.int (1 : Int32)), .val (.int (Int32.ofNat i)), .val (.int d)] [])) (fun t_ k_ => XS.istoreN X14.here hx rfl (hb hby own_d_prog_7_method_2_84) rfl (l' := #[.val (.ref o), .val (.int (1 : Int32)), .val (.int (Int32.ofNat i)), .val (.int d)]) rfl k_) ?_
        refine own_go (T14.setTop (mkF m 88 #[.val (.ref o), .val (.int (1 : Int32)), .val (.int ((Int32.ofNat i) + (1 : Int32))), .val (.int d)] [])) (fun t_ k_ => XS.iinc X14.here hx rfl (hb hby own_d_prog_7_method_2_85) rfl (l' := #[.val (.ref o), .val (.int (1 : Int32)), .val (.int ((Int32.ofNat i) + (1 : Int32))), .val (.int d)]) rfl k_) ?_
        refine own_go (T14.setTop (mkF m 31 #[.val (.ref o), .val (.int (1 : Int32)), .val (.int ((Int32.ofNat i) + (1 : Int32))), .val (.int d)] [])) (fun t_ k_ => XS.goto X14.here hx rfl (pc0 := 88) (pc' := 31) rfl (hb hby own_d_prog_7_method_2_88) (by decide) (by decide) k_) ?_
        rw [own_next i]
        exact ih  (i + 1) (by omega) _ _ hS hk hZ hown _ _ X14 N14 e14 _
      ·
        refine own_go (T14.setTop (mkF m 50 #[.val (.ref o), .val (.int (1 : Int32)), .val (.int (Int32.ofNat i)), .val (.int d)] [(.int d)])) (fun t_ k_ => XS.iloadN X14.here hx rfl (hb hby own_d_prog_7_method_2_49) rfl k_) ?_
        refine own_go (T14.setTop (mkF m 52 #[.val (.ref o), .val (.int (1 : Int32)), .val (.int (Int32.ofNat i)), .val (.int d)] [(.int (97 : Int32)), (.int d)])) (fun t_ k_ => XS.bipush X14.here hx rfl (hb hby own_d_prog_7_method_2_50) k_) ?_
        refine own_go (T14.setTop (mkF m 61 #[.val (.ref o), .val (.int (1 : Int32)), .val (.int (Int32.ofNat i)), .val (.int d)] [])) (fun t_ k_ => XS.icmpYes X14.here hx rfl (pc0 := 52) (pc' := 61) rfl (hb hby own_d_prog_7_method_2_52) rfl (tlt (by rw [q1] <;> decide)).1 (by decide) (by decide) k_) ?_
        refine own_go (T14.setTop (mkF m 62 #[.val (.ref o), .val (.int (1 : Int32)), .val (.int (Int32.ofNat i)), .val (.int d)] [(.int d)])) (fun t_ k_ => XS.iloadN X14.here hx rfl (hb hby own_d_prog_7_method_2_61) rfl k_) ?_
        refine own_go (T14.setTop (mkF m 64 #[.val (.ref o), .val (.int (1 : Int32)), .val (.int (Int32.ofNat i)), .val (.int d)] [(.int (48 : Int32)), (.int d)])) (fun t_ k_ => XS.bipush X14.here hx rfl (hb hby own_d_prog_7_method_2_62) k_) ?_
        refine own_go (T14.setTop (mkF m 67 #[.val (.ref o), .val (.int (1 : Int32)), .val (.int (Int32.ofNat i)), .val (.int d)] [])) (fun t_ k_ => XS.icmpNo X14.here hx rfl (hb hby own_d_prog_7_method_2_64) rfl (flt (by rw [q1] <;> decide)).1 k_) ?_
        refine own_go (T14.setTop (mkF m 68 #[.val (.ref o), .val (.int (1 : Int32)), .val (.int (Int32.ofNat i)), .val (.int d)] [(.int d)])) (fun t_ k_ => XS.iloadN X14.here hx rfl (hb hby own_d_prog_7_method_2_67) rfl k_) ?_
        refine own_go (T14.setTop (mkF m 70 #[.val (.ref o), .val (.int (1 : Int32)), .val (.int (Int32.ofNat i)), .val (.int d)] [(.int (57 : Int32)), (.int d)])) (fun t_ k_ => XS.bipush X14.here hx rfl (hb hby own_d_prog_7_method_2_68) k_) ?_
        refine own_go (T14.setTop (mkF m 73 #[.val (.ref o), .val (.int (1 : Int32)), .val (.int (Int32.ofNat i)), .val (.int d)] [])) (fun t_ k_ => XS.icmpNo X14.here hx rfl (hb hby own_d_prog_7_method_2_70) rfl (tlt (by rw [q1] <;> decide)).2.2.2 k_) ?_
        refine own_go (T14.setTop (mkF m 74 #[.val (.ref o), .val (.int (1 : Int32)), .val (.int (Int32.ofNat i)), .val (.int d)] [(.int d)])) (fun t_ k_ => XS.iloadN X14.here hx rfl (hb hby own_d_prog_7_method_2_73) rfl k_) ?_
        refine own_go (T14.setTop (mkF m 76 #[.val (.ref o), .val (.int (1 : Int32)), .val (.int (Int32.ofNat i)), .val (.int d)] [(.int (95 : Int32)), (.int d)])) (fun t_ k_ => XS.bipush X14.here hx rfl (hb hby own_d_prog_7_method_2_74) k_) ?_
        refine own_go (T14.setTop (mkF m 79 #[.val (.ref o), .val (.int (1 : Int32)), .val (.int (Int32.ofNat i)), .val (.int d)] [])) (fun t_ k_ => XS.icmpNo X14.here hx rfl (hb hby own_d_prog_7_method_2_76) rfl (teq q1).2 k_) ?_
        refine own_go (T14.setTop (mkF m 80 #[.val (.ref o), .val (.int (1 : Int32)), .val (.int (Int32.ofNat i)), .val (.int d)] [(.int (1 : Int32))])) (fun t_ k_ => XS.iconst X14.here hx rfl (hb hby own_d_prog_7_method_2_79) k_) ?_
        refine own_go (T14.setTop (mkF m 84 #[.val (.ref o), .val (.int (1 : Int32)), .val (.int (Int32.ofNat i)), .val (.int d)] [(.int (1 : Int32))])) (fun t_ k_ => XS.goto X14.here hx rfl (pc0 := 80) (pc' := 84) rfl (hb hby own_d_prog_7_method_2_80) (by decide) (by decide) k_) ?_
        refine own_go (T14.setTop (mkF m 85 #[.val (.ref o), .val (.int (1 : Int32)), .val (.int (Int32.ofNat i)), .val (.int d)] [])) (fun t_ k_ => XS.istoreN X14.here hx rfl (hb hby own_d_prog_7_method_2_84) rfl (l' := #[.val (.ref o), .val (.int (1 : Int32)), .val (.int (Int32.ofNat i)), .val (.int d)]) rfl k_) ?_
        refine own_go (T14.setTop (mkF m 88 #[.val (.ref o), .val (.int (1 : Int32)), .val (.int ((Int32.ofNat i) + (1 : Int32))), .val (.int d)] [])) (fun t_ k_ => XS.iinc X14.here hx rfl (hb hby own_d_prog_7_method_2_85) rfl (l' := #[.val (.ref o), .val (.int (1 : Int32)), .val (.int ((Int32.ofNat i) + (1 : Int32))), .val (.int d)]) rfl k_) ?_
        refine own_go (T14.setTop (mkF m 31 #[.val (.ref o), .val (.int (1 : Int32)), .val (.int ((Int32.ofNat i) + (1 : Int32))), .val (.int d)] [])) (fun t_ k_ => XS.goto X14.here hx rfl (pc0 := 88) (pc' := 31) rfl (hb hby own_d_prog_7_method_2_88) (by decide) (by decide) k_) ?_
        rw [own_next i]
        exact ih  (i + 1) (by omega) _ _ hS hk hZ hown _ _ X14 N14 e14 _
  refine own_go (T8.setTop (mkF m 32 #[.val (.ref o), .val (.int (1 : Int32)), .val (.int (0 : Int32)), .unset] [(.int (1 : Int32))])) (fun t_ k_ => XS.iloadN X8.here hx rfl (hb hby own_d_prog_7_method_2_31) rfl k_) ?_
  refine own_go (T8.setTop (mkF m 35 #[.val (.ref o), .val (.int (1 : Int32)), .val (.int (0 : Int32)), .unset] [])) (fun t_ k_ => XS.ifNo X8.here hx rfl (hb hby own_d_prog_7_method_2_32) rfl ((if0 _ _).trans (feq (by decide : ¬ ((1 : Int32) = (0 : Int32)))).1) k_) ?_
  refine own_go (T8.setTop (mkF m 36 #[.val (.ref o), .val (.int (1 : Int32)), .val (.int (0 : Int32)), .unset] [(.int (0 : Int32))])) (fun t_ k_ => XS.iloadN X8.here hx rfl (hb hby own_d_prog_7_method_2_35) rfl k_) ?_
  refine own_go (T8.setTop (mkF m 37 #[.val (.ref o), .val (.int (1 : Int32)), .val (.int (0 : Int32)), .unset] [(.ref o), (.int (0 : Int32))])) (fun t_ k_ => XS.aloadN X8.here hx rfl (hb hby own_d_prog_7_method_2_36) rfl rfl k_) ?_
  obtain ⟨cq15, kq15, q15a, q15b, q15c⟩ := isOf hZ e8 Fz4
  obtain ⟨_, _, ⟨T15, Lu15, ku15, nu15⟩, -, X15, ⟨Lc15, hQ15, lu15, yu15, zu15⟩, st15⟩ := X8.virtualBack hx (y := (⟨"java/lang/String", "length", "()I"⟩ : MethodName)) (z := (⟨"java/lang/String", "length", "()I"⟩ : MethodName)) hown (mvT hZ (hw _ (List.mem_of_getElem? (i := 51) rfl))) (mvT hZ (hw _ (List.mem_of_getElem? (i := 52) rfl))) (notFace_of_selects (args := #[]) (mvT hZ (hw _ (List.mem_of_getElem? (i := 54) rfl)))) (mvT hZ (hw _ (List.mem_of_getElem? (i := 54) rfl))) (mvT hZ (hw _ (List.mem_of_getElem? (i := 53) rfl))) (by decide) (StrChars.Road.lenW (W := 1) hZ (fun d hd => hw d (own_wordsLen d hd)) (kI := 4) (hw _ (List.mem_of_getElem? (i := 7) rfl)) Fz4 Fz5 Fz6 Fz7 hcd hbd (S_CS.ext O1) n_CS (by omega) (by decide) (by decide)) q15a q15c (g := (mkF m 37 #[.val (.ref o), .val (.int (1 : Int32)), .val (.int (0 : Int32)), .unset] [(.ref o), (.int (0 : Int32))])) rfl (by rw [hml]; rfl) (Steps.refl _) (argsL := []) (rest := [(.int (0 : Int32))]) (lenOf own_pd2 rfl) rfl (by show 2 * 0 + _ ≤ _; exact Nat.le_of_eq rfl) (hb hby own_d_prog_7_method_2_37) (fun _ _ => ⟨rfl, e8, (by decide : 2 + 0 ≤ _), (by decide : 20 + 0 ≤ _)⟩)
  dsimp only [Pt.U, Pt.locs, Pt.cells, Pt.slots] at X15 lu15 yu15 zu15 st15 hQ15
  subst lu15 yu15 zu15
  obtain ⟨rfl, rfl, e15⟩ := hQ15
  have N15q : Fr Z.heap.size ([] : List Loc) := Fr.nil _
  have N15 := Fr.app N8 N15q
  refine own_go (T15.setTop (mkF m 40 #[.val (.ref o), .val (.int (1 : Int32)), .val (.int (0 : Int32)), .unset] [(.int (Int32.ofNat cs.length)), (.int (0 : Int32))])) (fun t_ k_ => st15.trans k_) ?_
  refine own_go (T15.setTop (mkF m 43 #[.val (.ref o), .val (.int (1 : Int32)), .val (.int (0 : Int32)), .unset] [])) (fun t_ k_ => XS.icmpNo X15.here hx rfl (hb hby own_d_prog_7_method_2_40) rfl (tlt (by have q := own_idx 0 cs.length (by omega) hl0; exact q)).2.1 k_) ?_
  refine own_go (T15.setTop (mkF m 44 #[.val (.ref o), .val (.int (1 : Int32)), .val (.int (0 : Int32)), .unset] [(.ref o)])) (fun t_ k_ => XS.aloadN X15.here hx rfl (hb hby own_d_prog_7_method_2_43) rfl rfl k_) ?_
  refine own_go (T15.setTop (mkF m 45 #[.val (.ref o), .val (.int (1 : Int32)), .val (.int (0 : Int32)), .unset] [(.int (0 : Int32)), (.ref o)])) (fun t_ k_ => XS.iloadN X15.here hx rfl (hb hby own_d_prog_7_method_2_44) rfl k_) ?_
  obtain ⟨cq16, kq16, q16a, q16b, q16c⟩ := isOf hZ e15 Fz4
  obtain ⟨_, _, ⟨T16, Lu16, ku16, nu16⟩, -, X16, ⟨Lc16, hQ16, lu16, yu16, zu16⟩, st16⟩ := X15.virtualBack hx (y := (⟨"java/lang/String", "charAt", "(I)C"⟩ : MethodName)) (z := (⟨"java/lang/String", "charAt", "(I)C"⟩ : MethodName)) hown (mvT hZ (hw _ (List.mem_of_getElem? (i := 61) rfl))) (mvT hZ (hw _ (List.mem_of_getElem? (i := 62) rfl))) (notFace_of_selects (args := #[]) (mvT hZ (hw _ (List.mem_of_getElem? (i := 64) rfl)))) (mvT hZ (hw _ (List.mem_of_getElem? (i := 64) rfl))) (mvT hZ (hw _ (List.mem_of_getElem? (i := 63) rfl))) (by decide) (StrChars.Road.chN (W := 0) hZ (fun d hd => hw d (own_wordsChN d hd)) (kI := 4) (hw _ (List.mem_of_getElem? (i := 7) rfl)) Fz4 Fz5 Fz6 Fz7 hcd hbd (S_CS.ext O1) n_CS (S_SF.ext O1) r_SF (by omega) (i := 0) (j := (0 : Int32)) hl0 rfl (by decide) (by decide)) q16a q16c (g := (mkF m 45 #[.val (.ref o), .val (.int (1 : Int32)), .val (.int (0 : Int32)), .unset] [(.int (0 : Int32)), (.ref o)])) rfl (by rw [hml]; rfl) (Steps.refl _) (argsL := [(.int (0 : Int32))]) (rest := []) (lenOf own_pd4 rfl) rfl (by show 2 * 0 + _ ≤ _; exact Nat.le_of_eq rfl) (hb hby own_d_prog_7_method_2_45) (fun _ _ => ⟨rfl, e15, (by decide : 2 + 0 ≤ _), (by decide : 20 + 0 ≤ _)⟩)
  dsimp only [Pt.U, Pt.locs, Pt.cells, Pt.slots] at X16 lu16 yu16 zu16 st16 hQ16
  subst lu16 yu16 zu16
  obtain ⟨rfl, rfl, e16⟩ := hQ16
  have N16q : Fr Z.heap.size ([] : List Loc) := Fr.nil _
  have N16 := Fr.app N15 N16q
  refine own_go (T16.setTop (mkF m 48 #[.val (.ref o), .val (.int (1 : Int32)), .val (.int (0 : Int32)), .unset] [(.int (cs.getD 0 0))])) (fun t_ k_ => st16.trans k_) ?_
  refine own_go (T16.setTop (mkF m 49 #[.val (.ref o), .val (.int (1 : Int32)), .val (.int (0 : Int32)), .val (.int (cs.getD 0 0))] [])) (fun t_ k_ => XS.istoreN X16.here hx rfl (hb hby own_d_prog_7_method_2_48) rfl (l' := #[.val (.ref o), .val (.int (1 : Int32)), .val (.int (0 : Int32)), .val (.int (cs.getD 0 0))]) rfl k_) ?_
  have hch := own_get cs hok 0 hl0
  obtain ⟨d, hd⟩ : ∃ z, z = cs.getD 0 0 := ⟨_, rfl⟩
  rw [← hd] at hch
  rw [← hd]
  rcases hch with ⟨q1, q2⟩ | ⟨q1, q2, q3⟩ | q1
  ·
    refine own_go (T16.setTop (mkF m 50 #[.val (.ref o), .val (.int (1 : Int32)), .val (.int (0 : Int32)), .val (.int d)] [(.int d)])) (fun t_ k_ => XS.iloadN X16.here hx rfl (hb hby own_d_prog_7_method_2_49) rfl k_) ?_
    refine own_go (T16.setTop (mkF m 52 #[.val (.ref o), .val (.int (1 : Int32)), .val (.int (0 : Int32)), .val (.int d)] [(.int (97 : Int32)), (.int d)])) (fun t_ k_ => XS.bipush X16.here hx rfl (hb hby own_d_prog_7_method_2_50) k_) ?_
    refine own_go (T16.setTop (mkF m 55 #[.val (.ref o), .val (.int (1 : Int32)), .val (.int (0 : Int32)), .val (.int d)] [])) (fun t_ k_ => XS.icmpNo X16.here hx rfl (hb hby own_d_prog_7_method_2_52) rfl (flt q1).1 k_) ?_
    refine own_go (T16.setTop (mkF m 56 #[.val (.ref o), .val (.int (1 : Int32)), .val (.int (0 : Int32)), .val (.int d)] [(.int d)])) (fun t_ k_ => XS.iloadN X16.here hx rfl (hb hby own_d_prog_7_method_2_55) rfl k_) ?_
    refine own_go (T16.setTop (mkF m 58 #[.val (.ref o), .val (.int (1 : Int32)), .val (.int (0 : Int32)), .val (.int d)] [(.int (122 : Int32)), (.int d)])) (fun t_ k_ => XS.bipush X16.here hx rfl (hb hby own_d_prog_7_method_2_56) k_) ?_
    refine own_go (T16.setTop (mkF m 79 #[.val (.ref o), .val (.int (1 : Int32)), .val (.int (0 : Int32)), .val (.int d)] [])) (fun t_ k_ => XS.icmpYes X16.here hx rfl (pc0 := 58) (pc' := 79) rfl (hb hby own_d_prog_7_method_2_58) rfl (flt q2).2.2.2 (by decide) (by decide) k_) ?_
    refine own_go (T16.setTop (mkF m 80 #[.val (.ref o), .val (.int (1 : Int32)), .val (.int (0 : Int32)), .val (.int d)] [(.int (1 : Int32))])) (fun t_ k_ => XS.iconst X16.here hx rfl (hb hby own_d_prog_7_method_2_79) k_) ?_
    refine own_go (T16.setTop (mkF m 84 #[.val (.ref o), .val (.int (1 : Int32)), .val (.int (0 : Int32)), .val (.int d)] [(.int (1 : Int32))])) (fun t_ k_ => XS.goto X16.here hx rfl (pc0 := 80) (pc' := 84) rfl (hb hby own_d_prog_7_method_2_80) (by decide) (by decide) k_) ?_
    refine own_go (T16.setTop (mkF m 85 #[.val (.ref o), .val (.int (1 : Int32)), .val (.int (0 : Int32)), .val (.int d)] [])) (fun t_ k_ => XS.istoreN X16.here hx rfl (hb hby own_d_prog_7_method_2_84) rfl (l' := #[.val (.ref o), .val (.int (1 : Int32)), .val (.int (0 : Int32)), .val (.int d)]) rfl k_) ?_
    refine own_go (T16.setTop (mkF m 88 #[.val (.ref o), .val (.int (1 : Int32)), .val (.int ((0 : Int32) + (1 : Int32))), .val (.int d)] [])) (fun t_ k_ => XS.iinc X16.here hx rfl (hb hby own_d_prog_7_method_2_85) rfl (l' := #[.val (.ref o), .val (.int (1 : Int32)), .val (.int ((0 : Int32) + (1 : Int32))), .val (.int d)]) rfl k_) ?_
    rw [show ((0 : Int32) + (1 : Int32)) = (1 : Int32) from by decide]
    refine own_go (T16.setTop (mkF m 31 #[.val (.ref o), .val (.int (1 : Int32)), .val (.int (1 : Int32)), .val (.int d)] [])) (fun t_ k_ => XS.goto X16.here hx rfl (pc0 := 88) (pc' := 31) rfl (hb hby own_d_prog_7_method_2_88) (by decide) (by decide) k_) ?_
    exact LP (cs.length - 1) 1 (by omega) _ _ hS hk hZ hown _ _ X16 N16 e16 _
  ·
    refine own_go (T16.setTop (mkF m 50 #[.val (.ref o), .val (.int (1 : Int32)), .val (.int (0 : Int32)), .val (.int d)] [(.int d)])) (fun t_ k_ => XS.iloadN X16.here hx rfl (hb hby own_d_prog_7_method_2_49) rfl k_) ?_
    refine own_go (T16.setTop (mkF m 52 #[.val (.ref o), .val (.int (1 : Int32)), .val (.int (0 : Int32)), .val (.int d)] [(.int (97 : Int32)), (.int d)])) (fun t_ k_ => XS.bipush X16.here hx rfl (hb hby own_d_prog_7_method_2_50) k_) ?_
    refine own_go (T16.setTop (mkF m 61 #[.val (.ref o), .val (.int (1 : Int32)), .val (.int (0 : Int32)), .val (.int d)] [])) (fun t_ k_ => XS.icmpYes X16.here hx rfl (pc0 := 52) (pc' := 61) rfl (hb hby own_d_prog_7_method_2_52) rfl (tlt q3).1 (by decide) (by decide) k_) ?_
    refine own_go (T16.setTop (mkF m 62 #[.val (.ref o), .val (.int (1 : Int32)), .val (.int (0 : Int32)), .val (.int d)] [(.int d)])) (fun t_ k_ => XS.iloadN X16.here hx rfl (hb hby own_d_prog_7_method_2_61) rfl k_) ?_
    refine own_go (T16.setTop (mkF m 64 #[.val (.ref o), .val (.int (1 : Int32)), .val (.int (0 : Int32)), .val (.int d)] [(.int (48 : Int32)), (.int d)])) (fun t_ k_ => XS.bipush X16.here hx rfl (hb hby own_d_prog_7_method_2_62) k_) ?_
    refine own_go (T16.setTop (mkF m 67 #[.val (.ref o), .val (.int (1 : Int32)), .val (.int (0 : Int32)), .val (.int d)] [])) (fun t_ k_ => XS.icmpNo X16.here hx rfl (hb hby own_d_prog_7_method_2_64) rfl (flt q1).1 k_) ?_
    refine own_go (T16.setTop (mkF m 68 #[.val (.ref o), .val (.int (1 : Int32)), .val (.int (0 : Int32)), .val (.int d)] [(.int d)])) (fun t_ k_ => XS.iloadN X16.here hx rfl (hb hby own_d_prog_7_method_2_67) rfl k_) ?_
    refine own_go (T16.setTop (mkF m 70 #[.val (.ref o), .val (.int (1 : Int32)), .val (.int (0 : Int32)), .val (.int d)] [(.int (57 : Int32)), (.int d)])) (fun t_ k_ => XS.bipush X16.here hx rfl (hb hby own_d_prog_7_method_2_68) k_) ?_
    refine own_go (T16.setTop (mkF m 79 #[.val (.ref o), .val (.int (1 : Int32)), .val (.int (0 : Int32)), .val (.int d)] [])) (fun t_ k_ => XS.icmpYes X16.here hx rfl (pc0 := 70) (pc' := 79) rfl (hb hby own_d_prog_7_method_2_70) rfl (flt q2).2.2.2 (by decide) (by decide) k_) ?_
    refine own_go (T16.setTop (mkF m 80 #[.val (.ref o), .val (.int (1 : Int32)), .val (.int (0 : Int32)), .val (.int d)] [(.int (1 : Int32))])) (fun t_ k_ => XS.iconst X16.here hx rfl (hb hby own_d_prog_7_method_2_79) k_) ?_
    refine own_go (T16.setTop (mkF m 84 #[.val (.ref o), .val (.int (1 : Int32)), .val (.int (0 : Int32)), .val (.int d)] [(.int (1 : Int32))])) (fun t_ k_ => XS.goto X16.here hx rfl (pc0 := 80) (pc' := 84) rfl (hb hby own_d_prog_7_method_2_80) (by decide) (by decide) k_) ?_
    refine own_go (T16.setTop (mkF m 85 #[.val (.ref o), .val (.int (1 : Int32)), .val (.int (0 : Int32)), .val (.int d)] [])) (fun t_ k_ => XS.istoreN X16.here hx rfl (hb hby own_d_prog_7_method_2_84) rfl (l' := #[.val (.ref o), .val (.int (1 : Int32)), .val (.int (0 : Int32)), .val (.int d)]) rfl k_) ?_
    refine own_go (T16.setTop (mkF m 88 #[.val (.ref o), .val (.int (1 : Int32)), .val (.int ((0 : Int32) + (1 : Int32))), .val (.int d)] [])) (fun t_ k_ => XS.iinc X16.here hx rfl (hb hby own_d_prog_7_method_2_85) rfl (l' := #[.val (.ref o), .val (.int (1 : Int32)), .val (.int ((0 : Int32) + (1 : Int32))), .val (.int d)]) rfl k_) ?_
    rw [show ((0 : Int32) + (1 : Int32)) = (1 : Int32) from by decide]
    refine own_go (T16.setTop (mkF m 31 #[.val (.ref o), .val (.int (1 : Int32)), .val (.int (1 : Int32)), .val (.int d)] [])) (fun t_ k_ => XS.goto X16.here hx rfl (pc0 := 88) (pc' := 31) rfl (hb hby own_d_prog_7_method_2_88) (by decide) (by decide) k_) ?_
    exact LP (cs.length - 1) 1 (by omega) _ _ hS hk hZ hown _ _ X16 N16 e16 _
  ·
    refine own_go (T16.setTop (mkF m 50 #[.val (.ref o), .val (.int (1 : Int32)), .val (.int (0 : Int32)), .val (.int d)] [(.int d)])) (fun t_ k_ => XS.iloadN X16.here hx rfl (hb hby own_d_prog_7_method_2_49) rfl k_) ?_
    refine own_go (T16.setTop (mkF m 52 #[.val (.ref o), .val (.int (1 : Int32)), .val (.int (0 : Int32)), .val (.int d)] [(.int (97 : Int32)), (.int d)])) (fun t_ k_ => XS.bipush X16.here hx rfl (hb hby own_d_prog_7_method_2_50) k_) ?_
    refine own_go (T16.setTop (mkF m 61 #[.val (.ref o), .val (.int (1 : Int32)), .val (.int (0 : Int32)), .val (.int d)] [])) (fun t_ k_ => XS.icmpYes X16.here hx rfl (pc0 := 52) (pc' := 61) rfl (hb hby own_d_prog_7_method_2_52) rfl (tlt (by rw [q1] <;> decide)).1 (by decide) (by decide) k_) ?_
    refine own_go (T16.setTop (mkF m 62 #[.val (.ref o), .val (.int (1 : Int32)), .val (.int (0 : Int32)), .val (.int d)] [(.int d)])) (fun t_ k_ => XS.iloadN X16.here hx rfl (hb hby own_d_prog_7_method_2_61) rfl k_) ?_
    refine own_go (T16.setTop (mkF m 64 #[.val (.ref o), .val (.int (1 : Int32)), .val (.int (0 : Int32)), .val (.int d)] [(.int (48 : Int32)), (.int d)])) (fun t_ k_ => XS.bipush X16.here hx rfl (hb hby own_d_prog_7_method_2_62) k_) ?_
    refine own_go (T16.setTop (mkF m 67 #[.val (.ref o), .val (.int (1 : Int32)), .val (.int (0 : Int32)), .val (.int d)] [])) (fun t_ k_ => XS.icmpNo X16.here hx rfl (hb hby own_d_prog_7_method_2_64) rfl (flt (by rw [q1] <;> decide)).1 k_) ?_
    refine own_go (T16.setTop (mkF m 68 #[.val (.ref o), .val (.int (1 : Int32)), .val (.int (0 : Int32)), .val (.int d)] [(.int d)])) (fun t_ k_ => XS.iloadN X16.here hx rfl (hb hby own_d_prog_7_method_2_67) rfl k_) ?_
    refine own_go (T16.setTop (mkF m 70 #[.val (.ref o), .val (.int (1 : Int32)), .val (.int (0 : Int32)), .val (.int d)] [(.int (57 : Int32)), (.int d)])) (fun t_ k_ => XS.bipush X16.here hx rfl (hb hby own_d_prog_7_method_2_68) k_) ?_
    refine own_go (T16.setTop (mkF m 73 #[.val (.ref o), .val (.int (1 : Int32)), .val (.int (0 : Int32)), .val (.int d)] [])) (fun t_ k_ => XS.icmpNo X16.here hx rfl (hb hby own_d_prog_7_method_2_70) rfl (tlt (by rw [q1] <;> decide)).2.2.2 k_) ?_
    refine own_go (T16.setTop (mkF m 74 #[.val (.ref o), .val (.int (1 : Int32)), .val (.int (0 : Int32)), .val (.int d)] [(.int d)])) (fun t_ k_ => XS.iloadN X16.here hx rfl (hb hby own_d_prog_7_method_2_73) rfl k_) ?_
    refine own_go (T16.setTop (mkF m 76 #[.val (.ref o), .val (.int (1 : Int32)), .val (.int (0 : Int32)), .val (.int d)] [(.int (95 : Int32)), (.int d)])) (fun t_ k_ => XS.bipush X16.here hx rfl (hb hby own_d_prog_7_method_2_74) k_) ?_
    refine own_go (T16.setTop (mkF m 79 #[.val (.ref o), .val (.int (1 : Int32)), .val (.int (0 : Int32)), .val (.int d)] [])) (fun t_ k_ => XS.icmpNo X16.here hx rfl (hb hby own_d_prog_7_method_2_76) rfl (teq q1).2 k_) ?_
    refine own_go (T16.setTop (mkF m 80 #[.val (.ref o), .val (.int (1 : Int32)), .val (.int (0 : Int32)), .val (.int d)] [(.int (1 : Int32))])) (fun t_ k_ => XS.iconst X16.here hx rfl (hb hby own_d_prog_7_method_2_79) k_) ?_
    refine own_go (T16.setTop (mkF m 84 #[.val (.ref o), .val (.int (1 : Int32)), .val (.int (0 : Int32)), .val (.int d)] [(.int (1 : Int32))])) (fun t_ k_ => XS.goto X16.here hx rfl (pc0 := 80) (pc' := 84) rfl (hb hby own_d_prog_7_method_2_80) (by decide) (by decide) k_) ?_
    refine own_go (T16.setTop (mkF m 85 #[.val (.ref o), .val (.int (1 : Int32)), .val (.int (0 : Int32)), .val (.int d)] [])) (fun t_ k_ => XS.istoreN X16.here hx rfl (hb hby own_d_prog_7_method_2_84) rfl (l' := #[.val (.ref o), .val (.int (1 : Int32)), .val (.int (0 : Int32)), .val (.int d)]) rfl k_) ?_
    refine own_go (T16.setTop (mkF m 88 #[.val (.ref o), .val (.int (1 : Int32)), .val (.int ((0 : Int32) + (1 : Int32))), .val (.int d)] [])) (fun t_ k_ => XS.iinc X16.here hx rfl (hb hby own_d_prog_7_method_2_85) rfl (l' := #[.val (.ref o), .val (.int (1 : Int32)), .val (.int ((0 : Int32) + (1 : Int32))), .val (.int d)]) rfl k_) ?_
    rw [show ((0 : Int32) + (1 : Int32)) = (1 : Int32) from by decide]
    refine own_go (T16.setTop (mkF m 31 #[.val (.ref o), .val (.int (1 : Int32)), .val (.int (1 : Int32)), .val (.int d)] [])) (fun t_ k_ => XS.goto X16.here hx rfl (pc0 := 88) (pc' := 31) rfl (hb hby own_d_prog_7_method_2_88) (by decide) (by decide) k_) ?_
    exact LP (cs.length - 1) 1 (by omega) _ _ hS hk hZ hown _ _ X16 N16 e16 _
theorem own_nark (c : Int32) (h : own_ok c) : nar .char c = c := by
  have hb := own_okb c h
  have e : c = c &&& 255 := by
    apply Int32.toInt_inj.mp
    rw [Jvm.Kit.i32_mask c 255 (k := 8) (by decide) (by decide)]
    have e0 : (0 : Int32).toInt = 0 := by decide
    have e1 : (255 : Int32).toInt = 255 := by decide
    rw [Int32.lt_iff_toInt_lt, Int32.lt_iff_toInt_lt] at hb
    omega
  rw [e]
  exact i2c_mask c
theorem own_narok (c : Int32) (h : own_ok c) : own_ok (nar .char c) := by rw [own_nark c h]; exact h
theorem own_okA0 : ∀ c ∈ ([] : List Int32), own_ok c := fun _ q => nomatch q
theorem own_okAS {y : Int32} {L : List Int32} (q : own_ok y) (r : ∀ c ∈ L, own_ok c) : ∀ c ∈ y :: L, own_ok c := fun c z => (List.mem_cons.mp z).elim (fun u => u ▸ q) (r c)
theorem own_ef_law (m : MethodId) (p0 : Int32) (p1 : Int32) (p2 : Int32) (p3 : Int32) (p4 : Int32) : entryFrame m #[(.int p0), (.int p1), (.int p2), (.int p3), (.int p4)] maxLocals = mkF m 0 #[.val (.int p0), .val (.int p1), .val (.int p2), .val (.int p3), .val (.int p4), .unset, .unset, .unset, .unset] [] := by first | (simp [entryFrame, mkF, argsToLocals, Value.category, maxLocals]; done) | rfl
theorem own_lit_EdgeTypeOfPinLaw_8 : ∀ c ∈ ([97, 98, 99, 100, 101, 102, 103, 104, 105, 106, 107, 108, 109, 110, 111, 112, 113, 114, 115, 116, 117, 118, 119, 120, 121, 122, 48, 49, 50, 51, 52, 53, 54, 55, 56, 57, 95, 97, 98, 99, 100, 101, 102, 103, 104, 105, 106, 107, 108, 109, 110, 111, 112, 113, 114, 115, 116, 117, 118, 119, 120, 121, 122, 48] : List Int32), ¬ c < 0 ∧ ¬ (255 : Int32) < c := by decide +kernel
theorem own_pd5 : parseMethodDescriptor "(Ljava/lang/String;)Lcom/example/salp/salp/model/EdgeType;" = some ⟨[(.object "java/lang/String")], some (.object "com/example/salp/salp/model/EdgeType")⟩ := by decide +kernel
theorem own_pd6 : parseMethodDescriptor "()Ljava/lang/String;" = some ⟨[], some (.object "java/lang/String")⟩ := by decide +kernel
theorem own_pd7 : parseMethodDescriptor "(Ljava/lang/Object;)Z" = some ⟨[(.object "java/lang/Object")], some .boolean⟩ := by decide +kernel
theorem own_pd8 : parseMethodDescriptor "([C)V" = some ⟨[(.array .char)], none⟩ := by decide +kernel
def Q_law (Z : State) (p0 : Int32) (p1 : Int32) (p2 : Int32) (p3 : Int32) (p4 : Int32) (cs0 : Int32) (sf0 : Value) (h0 : Heap) (v_ : Option Value) (h : Heap) (L_ : List Loc) : Prop := v_ = some (.int 1) ∧ Fr Z.heap.size L_ ∧ (True)
set_option maxRecDepth 65536 in
set_option maxHeartbeats 40000000 in
theorem rm_law (l : Launch) (Z : State) (a0 : Array Value) (hw : ∀ d ∈ tables_1, d.before a0 Z = true) (ws : List Jvm.Cond) (p0 : Int32) (p1 : Int32) (p2 : Int32) (p3 : Int32) (p4 : Int32) (cs0 : Int32) (sf0 : Value) (h0 : Heap) (O : Ext Z.heap h0) (w : own_W Z cs0 sf0) :
    MetFree l x (head1 (Jvm.Cond.code x code maxLocals ret :: ws) room_1) (fun a_ U_ => a_ = #[(.int p0), (.int p1), (.int p2), (.int p3), (.int p4)] ∧ Z.Warmed39 U_.vm ∧ U_.heap = h0 ∧ CHv Z consts_1 U_.vm h0) (fun _ _ _ _ _ => True) (fun _ U_ o_ U2_ => ∃ v_ L_, o_ = .returned v_ ∧ Q_law Z p0 p1 p2 p3 p4 cs0 sf0 h0 v_ U2_.heap L_ ∧ ReturnedEndW U_ o_ U2_ L_ room_1.cells room_1.slots) := by
  refine MetFree.of_bodySF (plainFor_of_name own_pn0) hisR ?_
  intro p e s m args below meth c s₁ Bd hml0 hP hK
  obtain ⟨rfl, hZ, hh, hCH⟩ := hP
  have hx := Bd.exec
  have hby := Bd.bytes
  have hml : c.maxLocals = 9 := hml0
  have hown : s.vm.findClass "com/example/salp/salp/model/EdgeTypeOfPinLaw" = some m.cls := findClass_of_methodNamed Bd.named
  have hnm := (name_of_methodNamed Bd.named Bd.method).1
  have X0 : Stand p l e room_1 (s.setVm s.vm) m #[(.int p0), (.int p1), (.int p2), (.int p3), (.int p4)] below meth c s₁ [] 0 0 := Stand.of_body Bd
  have e0 : s₁.heap = h0 := by rw [← hh, Bd.state]; rfl
  have N0 := Fr.nil Z.heap.size
  have hS : s.Since s.vm s.heap.size := (State.WarmedH.refl _).since _
  have hk : s.heap.size ≤ h0.size := Nat.le_of_eq (congrArg Array.size hh)
  have hZ : Z.Warmed39 (s.setVm s.vm).vm := hZ
  have hown : (s.setVm s.vm).vm.findClass "com/example/salp/salp/model/EdgeTypeOfPinLaw" = some m.cls := hown
  show own_G p e below (fun o_ s₂ => ∃ v_ L_, o_ = .returned v_ ∧ Q_law Z p0 p1 p2 p3 p4 cs0 sf0 h0 v_ s₂.heap L_ ∧ ReturnedEndW s o_ s₂ L_ room_1.cells room_1.slots) (s₁.setTop (entryFrame m #[(.int p0), (.int p1), (.int p2), (.int p3), (.int p4)] maxLocals))
  refine own_go (s₁.setTop (mkF m 0 #[.val (.int p0), .val (.int p1), .val (.int p2), .val (.int p3), .val (.int p4), .unset, .unset, .unset, .unset] [])) (fun t_ k_ => castTop (own_ef_law m p0 p1 p2 p3 p4) k_) ?_
  have R0 := CHr.refl hCH
  have hEW : EW Z a0 consts_1 := own_EW hw
  have w' := w
  obtain ⟨S_CS, n_CS, S_SF, r_SF⟩ := w'
  refine own_go (s₁.setTop (mkF m 1 #[.val (.int p0), .val (.int p1), .val (.int p2), .val (.int p3), .val (.int p4), .unset, .unset, .unset, .unset] [(.int p0)])) (fun t_ k_ => XS.iloadN X0.here hx rfl (hb hby at_0) rfl k_) ?_
  refine own_go (s₁.setTop (mkF m 3 #[.val (.int p0), .val (.int p1), .val (.int p2), .val (.int p3), .val (.int p4), .unset, .unset, .unset, .unset] [(.int (7 : Int32)), (.int p0)])) (fun t_ k_ => XS.bipush X0.here hx rfl (hb hby at_1) k_) ?_
  refine own_go (s₁.setTop (mkF m 4 #[.val (.int p0), .val (.int p1), .val (.int p2), .val (.int p3), .val (.int p4), .unset, .unset, .unset, .unset] [(.int (p0 &&& (7 : Int32)))])) (fun t_ k_ => XS.iand X0.here hx rfl (hb hby at_3) rfl k_) ?_
  refine own_go (s₁.setTop (mkF m 6 #[.val (.int p0), .val (.int p1), .val (.int p2), .val (.int p3), .val (.int p4), .val (.int (p0 &&& (7 : Int32))), .unset, .unset, .unset] [])) (fun t_ k_ => XS.istore X0.here hx rfl (hb hby at_4) rfl (l' := #[.val (.int p0), .val (.int p1), .val (.int p2), .val (.int p3), .val (.int p4), .val (.int (p0 &&& (7 : Int32))), .unset, .unset, .unset]) rfl k_) ?_
  refine own_go (s₁.setTop (mkF m 8 #[.val (.int p0), .val (.int p1), .val (.int p2), .val (.int p3), .val (.int p4), .val (.int (p0 &&& (7 : Int32))), .unset, .unset, .unset] [(.int (p0 &&& (7 : Int32)))])) (fun t_ k_ => XS.iload X0.here hx rfl (hb hby at_6) rfl k_) ?_
  refine own_go (s₁.setTop (mkF m 10 #[.val (.int p0), .val (.int p1), .val (.int p2), .val (.int p3), .val (.int p4), .val (.int (p0 &&& (7 : Int32))), .unset, .unset, .unset] [(.int (7 : Int32)), (.int (p0 &&& (7 : Int32)))])) (fun t_ k_ => XS.bipush X0.here hx rfl (hb hby at_8) k_) ?_
  by_cases hc10_1 : (p0 &&& (7 : Int32)) = (7 : Int32)
  ·
    refine own_go (s₁.setTop (mkF m 13 #[.val (.int p0), .val (.int p1), .val (.int p2), .val (.int p3), .val (.int p4), .val (.int (p0 &&& (7 : Int32))), .unset, .unset, .unset] [])) (fun t_ k_ => XS.icmpNo X0.here hx rfl (hb hby at_10) rfl (teq hc10_1).2 k_) ?_
    obtain ⟨a2, T2, h2, k2, t2, kb2, X2, e2, E2, hS, hk, hZ, hown, A2, C2, V2, B2, lt2, ltb2, CC2, Li2, ne2, st2⟩ := ldcCH (EL := consts_1) X0 hx hZ hown (hw _ (List.mem_of_getElem? (i := 106) rfl)) (fun d hd => hw d (own_sA d hd)) e0 hS hk hEW (List.mem_of_getElem? (i := 1) rfl) R0.1 (vs := (([97, 98, 99, 100, 101, 102, 103, 104, 105, 106, 107, 108, 109, 110, 111, 112, 113, 114, 115, 116, 117, 118, 119, 120, 121, 122, 48, 49, 50, 51, 52, 53, 54, 55, 56, 57, 95, 97, 98, 99, 100, 101, 102, 103, 104, 105, 106, 107, 108, 109, 110, 111, 112, 113, 114, 115, 116, 117, 118, 119, 120, 121, 122, 48] : List Int32).map (fun c => c.toInt8.toInt32)).map Value.int) (z := 64) (by exact ⟨by decide, by rfl⟩) (by decide) (by rfl) (g := (mkF m 13 #[.val (.int p0), .val (.int p1), .val (.int p2), .val (.int p3), .val (.int p4), .val (.int (p0 &&& (7 : Int32))), .unset, .unset, .unset] [])) rfl (hb hby at_13) (n := 256) (by decide) (by decide) (by decide) (by decide)
    have K2 : Keep h0 h2 [] := (Keep.refl h0 []).ext E2
    have O2 := own_ext O E2
    have R2 := R0.trans CC2
    refine own_go (T2.setTop (mkF m 15 #[.val (.int p0), .val (.int p1), .val (.int p2), .val (.int p3), .val (.int p4), .val (.int (p0 &&& (7 : Int32))), .unset, .unset, .unset] [(.ref a2)])) (fun t_ k_ => st2 _ k_) ?_
    refine own_go (T2.setTop (mkF m 17 #[.val (.int p0), .val (.int p1), .val (.int p2), .val (.int p3), .val (.int p4), .val (.int (p0 &&& (7 : Int32))), .val (.ref a2), .unset, .unset] [])) (fun t_ k_ => XS.astore X2.here hx rfl (hb hby at_15) rfl rfl (l' := #[.val (.int p0), .val (.int p1), .val (.int p2), .val (.int p3), .val (.int p4), .val (.int (p0 &&& (7 : Int32))), .val (.ref a2), .unset, .unset]) rfl k_) ?_
    refine own_go (T2.setTop (mkF m 96 #[.val (.int p0), .val (.int p1), .val (.int p2), .val (.int p3), .val (.int p4), .val (.int (p0 &&& (7 : Int32))), .val (.ref a2), .unset, .unset] [])) (fun t_ k_ => XS.goto X2.here hx rfl (pc0 := 17) (pc' := 96) rfl (hb hby at_17) (by decide) (by decide) k_) ?_
    refine own_go (T2.setTop (mkF m 98 #[.val (.int p0), .val (.int p1), .val (.int p2), .val (.int p3), .val (.int p4), .val (.int (p0 &&& (7 : Int32))), .val (.ref a2), .unset, .unset] [(.ref a2)])) (fun t_ k_ => XS.aload X2.here hx rfl (hb hby at_96) rfl rfl k_) ?_
    obtain ⟨_, _, ⟨T3, Lu3, ku3, nu3⟩, -, X3, hS3, hg3, ⟨Lc3, hQ3, lu3, yu3, zu3⟩, st3⟩ := callSS X2 hx (y := (⟨"com/example/salp/salp/model/EdgeType", "of", "(Ljava/lang/String;)Lcom/example/salp/salp/model/EdgeType;"⟩ : MethodName)) hown (mvT hZ (hw _ (List.mem_of_getElem? (i := 35) rfl))) (mvT hZ (hw _ (List.mem_of_getElem? (i := 36) rfl))) (mvT hZ (hw _ (List.mem_of_getElem? (i := 37) rfl))) (mvT hZ (hw _ (List.mem_of_getElem? (i := 38) rfl))) (by decide) (backOfS (W := 0) (rm_of l Z a0 hw [] (a2) (t2) (kb2) (([97, 98, 99, 100, 101, 102, 103, 104, 105, 106, 107, 108, 109, 110, 111, 112, 113, 114, 115, 116, 117, 118, 119, 120, 121, 122, 48, 49, 50, 51, 52, 53, 54, 55, 56, 57, 95, 97, 98, 99, 100, 101, 102, 103, 104, 105, 106, 107, 108, 109, 110, 111, 112, 113, 114, 115, 116, 117, 118, 119, 120, 121, 122, 48] : List Int32)) (cs0) (sf0) h2 O2 w A2 V2 C2 B2 (by decide +kernel) (Nat.le_of_ble_eq_true rfl) (Nat.le_of_ble_eq_true rfl)) hZ (hw _ (List.mem_of_getElem? (i := 38) rfl)) (hw _ (List.mem_of_getElem? (i := 37) rfl)) (by decide) (by decide)) (g := (mkF m 98 #[.val (.int p0), .val (.int p1), .val (.int p2), .val (.int p3), .val (.int p4), .val (.int (p0 &&& (7 : Int32))), .val (.ref a2), .unset, .unset] [(.ref a2)])) rfl (by rw [hml]; rfl) (argsL := [(.ref a2)]) (rest := []) (lenOf own_pd5 rfl) rfl (by show 2 * 0 + _ ≤ _; exact Nat.le_of_eq rfl) (hb hby at_98) (fun _ _ => ⟨rfl, e2, (by decide : 2 + 3 ≤ _), (by decide : 260 + 21 ≤ _)⟩)
    dsimp only [Pt.U, Pt.locs, Pt.cells, Pt.slots] at X3 lu3 yu3 zu3 st3 hQ3 hS3 hg3
    subst lu3 yu3 zu3
    obtain ⟨X3, hS, hZ, hown⟩ := rebS hS (by rw [show T2.heap = h2 from e2]; exact hk) X3 hS3 hg3 hZ hown
    obtain ⟨r3, rfl, N3q, K3q, X3q, F3q⟩ := hQ3
    have N3 := Fr.app N0 N3q
    have O3 := own_extK O2 K3q all0
    have KK3 : Keep h0 T3.heap [] := K2.trans K3q all0
    refine own_go (T3.setTop (mkF m 101 #[.val (.int p0), .val (.int p1), .val (.int p2), .val (.int p3), .val (.int p4), .val (.int (p0 &&& (7 : Int32))), .val (.ref a2), .unset, .unset] [(.ref r3)])) (fun t_ k_ => st3.trans k_) ?_
    refine own_go (T3.setTop (mkF m 103 #[.val (.int p0), .val (.int p1), .val (.int p2), .val (.int p3), .val (.int p4), .val (.int (p0 &&& (7 : Int32))), .val (.ref a2), .val (.ref r3), .unset] [])) (fun t_ k_ => XS.astore X3.here hx rfl (hb hby at_101) rfl rfl (l' := #[.val (.int p0), .val (.int p1), .val (.int p2), .val (.int p3), .val (.int p4), .val (.int (p0 &&& (7 : Int32))), .val (.ref a2), .val (.ref r3), .unset]) rfl k_) ?_
    refine own_go (T3.setTop (mkF m 105 #[.val (.int p0), .val (.int p1), .val (.int p2), .val (.int p3), .val (.int p4), .val (.int (p0 &&& (7 : Int32))), .val (.ref a2), .val (.ref r3), .unset] [(.ref r3)])) (fun t_ k_ => XS.aload X3.here hx rfl (hb hby at_103) rfl rfl k_) ?_
    obtain ⟨cq4, kq4, q4a, q4b, q4c⟩ := isOf hZ rfl X3q
    obtain ⟨_, _, ⟨T4, Lu4, ku4, nu4⟩, -, X4, ⟨Lc4, hQ4, lu4, yu4, zu4⟩, st4⟩ := X3.virtualBack hx (y := (⟨"com/example/salp/salp/model/EdgeType", "name", "()Ljava/lang/String;"⟩ : MethodName)) (z := (⟨"com/example/salp/salp/model/EdgeType", "name", "()Ljava/lang/String;"⟩ : MethodName)) hown (mvT hZ (hw _ (List.mem_of_getElem? (i := 91) rfl))) (mvT hZ (hw _ (List.mem_of_getElem? (i := 92) rfl))) (notFace_of_selects (args := #[]) (mvT hZ (hw _ (List.mem_of_getElem? (i := 94) rfl)))) (mvT hZ (hw _ (List.mem_of_getElem? (i := 94) rfl))) (mvT hZ (hw _ (List.mem_of_getElem? (i := 93) rfl))) (by decide) (backOf (W := 0) (rm_gn l Z a0 hw [] (r3) (a2) T3.heap O3 F3q) hZ (hw _ (List.mem_of_getElem? (i := 95) rfl)) (hw _ (List.mem_of_getElem? (i := 37) rfl)) (by decide) (by decide)) q4a q4c (g := (mkF m 105 #[.val (.int p0), .val (.int p1), .val (.int p2), .val (.int p3), .val (.int p4), .val (.int (p0 &&& (7 : Int32))), .val (.ref a2), .val (.ref r3), .unset] [(.ref r3)])) rfl (by rw [hml]; rfl) (Steps.refl _) (argsL := []) (rest := []) (lenOf own_pd6 rfl) rfl (by show 2 * 0 + _ ≤ _; exact Nat.le_of_eq rfl) (hb hby at_105) (fun _ _ => ⟨rfl, rfl, (by decide : 5 + 0 ≤ _), (by decide : 281 + 0 ≤ _)⟩)
    dsimp only [Pt.U, Pt.locs, Pt.cells, Pt.slots] at X4 lu4 yu4 zu4 st4 hQ4
    subst lu4 yu4 zu4
    obtain ⟨rfl, N4q, e4⟩ := hQ4
    have N4 := Fr.app N3 N4q
    refine own_go (T4.setTop (mkF m 108 #[.val (.int p0), .val (.int p1), .val (.int p2), .val (.int p3), .val (.int p4), .val (.int (p0 &&& (7 : Int32))), .val (.ref a2), .val (.ref r3), .unset] [(.ref a2)])) (fun t_ k_ => st4.trans k_) ?_
    refine own_go (T4.setTop (mkF m 110 #[.val (.int p0), .val (.int p1), .val (.int p2), .val (.int p3), .val (.int p4), .val (.int (p0 &&& (7 : Int32))), .val (.ref a2), .val (.ref r3), .unset] [(.ref a2), (.ref a2)])) (fun t_ k_ => XS.aload X4.here hx rfl (hb hby at_108) rfl rfl k_) ?_
    have Fz6 := (A2.keep K3q)
    obtain ⟨cq5, kq5, q5a, q5b, q5c⟩ := isOf hZ e4 Fz6
    obtain ⟨_, _, ⟨T5, Lu5, ku5, nu5⟩, -, X5, ⟨Lc5, hQ5, lu5, yu5, zu5⟩, st5⟩ := X4.virtualBack hx (y := (⟨"java/lang/String", "equals", "(Ljava/lang/Object;)Z"⟩ : MethodName)) (z := (⟨"java/lang/String", "equals", "(Ljava/lang/Object;)Z"⟩ : MethodName)) hown (mvT hZ (hw _ (List.mem_of_getElem? (i := 96) rfl))) (mvT hZ (hw _ (List.mem_of_getElem? (i := 97) rfl))) (notFace_of_selects (args := #[]) (mvT hZ (hw _ (List.mem_of_getElem? (i := 99) rfl)))) (mvT hZ (hw _ (List.mem_of_getElem? (i := 99) rfl))) (mvT hZ (hw _ (List.mem_of_getElem? (i := 98) rfl))) (by decide) (backOf (W := 0) (rm_eqs l Z a0 hw [] (a2) T3.heap O3 ) hZ (hw _ (List.mem_of_getElem? (i := 100) rfl)) (hw _ (List.mem_of_getElem? (i := 8) rfl)) (by decide) (by decide)) q5a q5c (g := (mkF m 110 #[.val (.int p0), .val (.int p1), .val (.int p2), .val (.int p3), .val (.int p4), .val (.int (p0 &&& (7 : Int32))), .val (.ref a2), .val (.ref r3), .unset] [(.ref a2), (.ref a2)])) rfl (by rw [hml]; rfl) (Steps.refl _) (argsL := [(.ref a2)]) (rest := []) (lenOf own_pd7 rfl) rfl (by show 2 * 0 + _ ≤ _; exact Nat.le_of_eq rfl) (hb hby at_110) (fun _ _ => ⟨rfl, e4, (by decide : 5 + 0 ≤ _), (by decide : 281 + 0 ≤ _)⟩)
    dsimp only [Pt.U, Pt.locs, Pt.cells, Pt.slots] at X5 lu5 yu5 zu5 st5 hQ5
    subst lu5 yu5 zu5
    obtain ⟨rfl, N5q, e5⟩ := hQ5
    have N5 := Fr.app N4 N5q
    refine own_go (T5.setTop (mkF m 113 #[.val (.int p0), .val (.int p1), .val (.int p2), .val (.int p3), .val (.int p4), .val (.int (p0 &&& (7 : Int32))), .val (.ref a2), .val (.ref r3), .unset] [(.int (1 : Int32))])) (fun t_ k_ => st5.trans k_) ?_
    refine own_go (T5.setTop (mkF m 116 #[.val (.int p0), .val (.int p1), .val (.int p2), .val (.int p3), .val (.int p4), .val (.int (p0 &&& (7 : Int32))), .val (.ref a2), .val (.ref r3), .unset] [])) (fun t_ k_ => XS.ifNo X5.here hx rfl (hb hby at_113) rfl ((if0 _ _).trans (feq (by decide : ¬ ((1 : Int32) = (0 : Int32)))).1) k_) ?_
    refine own_go (T5.setTop (mkF m 118 #[.val (.int p0), .val (.int p1), .val (.int p2), .val (.int p3), .val (.int p4), .val (.int (p0 &&& (7 : Int32))), .val (.ref a2), .val (.ref r3), .unset] [(.ref r3)])) (fun t_ k_ => XS.aload X5.here hx rfl (hb hby at_116) rfl rfl k_) ?_
    obtain ⟨cq7, kq7, q7a, q7b, q7c⟩ := isOf hZ e5 X3q
    obtain ⟨_, _, ⟨T7, Lu7, ku7, nu7⟩, -, X7, ⟨Lc7, hQ7, lu7, yu7, zu7⟩, st7⟩ := X5.virtualBack hx (y := (⟨"com/example/salp/salp/model/EdgeType", "toString", "()Ljava/lang/String;"⟩ : MethodName)) (z := (⟨"com/example/salp/salp/model/EdgeType", "toString", "()Ljava/lang/String;"⟩ : MethodName)) hown (mvT hZ (hw _ (List.mem_of_getElem? (i := 101) rfl))) (mvT hZ (hw _ (List.mem_of_getElem? (i := 102) rfl))) (notFace_of_selects (args := #[]) (mvT hZ (hw _ (List.mem_of_getElem? (i := 104) rfl)))) (mvT hZ (hw _ (List.mem_of_getElem? (i := 104) rfl))) (mvT hZ (hw _ (List.mem_of_getElem? (i := 103) rfl))) (by decide) (backOf (W := 0) (rm_gt l Z a0 hw [] (r3) (a2) T3.heap O3 F3q) hZ (hw _ (List.mem_of_getElem? (i := 105) rfl)) (hw _ (List.mem_of_getElem? (i := 37) rfl)) (by decide) (by decide)) q7a q7c (g := (mkF m 118 #[.val (.int p0), .val (.int p1), .val (.int p2), .val (.int p3), .val (.int p4), .val (.int (p0 &&& (7 : Int32))), .val (.ref a2), .val (.ref r3), .unset] [(.ref r3)])) rfl (by rw [hml]; rfl) (Steps.refl _) (argsL := []) (rest := []) (lenOf own_pd6 rfl) rfl (by show 2 * 0 + _ ≤ _; exact Nat.le_of_eq rfl) (hb hby at_118) (fun _ _ => ⟨rfl, e5, (by decide : 5 + 0 ≤ _), (by decide : 281 + 0 ≤ _)⟩)
    dsimp only [Pt.U, Pt.locs, Pt.cells, Pt.slots] at X7 lu7 yu7 zu7 st7 hQ7
    subst lu7 yu7 zu7
    obtain ⟨rfl, N7q, e7⟩ := hQ7
    have N7 := Fr.app N5 N7q
    refine own_go (T7.setTop (mkF m 121 #[.val (.int p0), .val (.int p1), .val (.int p2), .val (.int p3), .val (.int p4), .val (.int (p0 &&& (7 : Int32))), .val (.ref a2), .val (.ref r3), .unset] [(.ref a2)])) (fun t_ k_ => st7.trans k_) ?_
    refine own_go (T7.setTop (mkF m 123 #[.val (.int p0), .val (.int p1), .val (.int p2), .val (.int p3), .val (.int p4), .val (.int (p0 &&& (7 : Int32))), .val (.ref a2), .val (.ref r3), .unset] [(.ref a2), (.ref a2)])) (fun t_ k_ => XS.aload X7.here hx rfl (hb hby at_121) rfl rfl k_) ?_
    obtain ⟨cq8, kq8, q8a, q8b, q8c⟩ := isOf hZ e7 Fz6
    obtain ⟨_, _, ⟨T8, Lu8, ku8, nu8⟩, -, X8, ⟨Lc8, hQ8, lu8, yu8, zu8⟩, st8⟩ := X7.virtualBack hx (y := (⟨"java/lang/String", "equals", "(Ljava/lang/Object;)Z"⟩ : MethodName)) (z := (⟨"java/lang/String", "equals", "(Ljava/lang/Object;)Z"⟩ : MethodName)) hown (mvT hZ (hw _ (List.mem_of_getElem? (i := 96) rfl))) (mvT hZ (hw _ (List.mem_of_getElem? (i := 97) rfl))) (notFace_of_selects (args := #[]) (mvT hZ (hw _ (List.mem_of_getElem? (i := 99) rfl)))) (mvT hZ (hw _ (List.mem_of_getElem? (i := 99) rfl))) (mvT hZ (hw _ (List.mem_of_getElem? (i := 98) rfl))) (by decide) (backOf (W := 0) (rm_eqs l Z a0 hw [] (a2) T3.heap O3 ) hZ (hw _ (List.mem_of_getElem? (i := 100) rfl)) (hw _ (List.mem_of_getElem? (i := 8) rfl)) (by decide) (by decide)) q8a q8c (g := (mkF m 123 #[.val (.int p0), .val (.int p1), .val (.int p2), .val (.int p3), .val (.int p4), .val (.int (p0 &&& (7 : Int32))), .val (.ref a2), .val (.ref r3), .unset] [(.ref a2), (.ref a2)])) rfl (by rw [hml]; rfl) (Steps.refl _) (argsL := [(.ref a2)]) (rest := []) (lenOf own_pd7 rfl) rfl (by show 2 * 0 + _ ≤ _; exact Nat.le_of_eq rfl) (hb hby at_123) (fun _ _ => ⟨rfl, e7, (by decide : 5 + 0 ≤ _), (by decide : 281 + 0 ≤ _)⟩)
    dsimp only [Pt.U, Pt.locs, Pt.cells, Pt.slots] at X8 lu8 yu8 zu8 st8 hQ8
    subst lu8 yu8 zu8
    obtain ⟨rfl, N8q, e8⟩ := hQ8
    have N8 := Fr.app N7 N8q
    refine own_go (T8.setTop (mkF m 126 #[.val (.int p0), .val (.int p1), .val (.int p2), .val (.int p3), .val (.int p4), .val (.int (p0 &&& (7 : Int32))), .val (.ref a2), .val (.ref r3), .unset] [(.int (1 : Int32))])) (fun t_ k_ => st8.trans k_) ?_
    refine own_go (T8.setTop (mkF m 129 #[.val (.int p0), .val (.int p1), .val (.int p2), .val (.int p3), .val (.int p4), .val (.int (p0 &&& (7 : Int32))), .val (.ref a2), .val (.ref r3), .unset] [])) (fun t_ k_ => XS.ifNo X8.here hx rfl (hb hby at_126) rfl ((if0 _ _).trans (feq (by decide : ¬ ((1 : Int32) = (0 : Int32)))).1) k_) ?_
    refine own_go (T8.setTop (mkF m 130 #[.val (.int p0), .val (.int p1), .val (.int p2), .val (.int p3), .val (.int p4), .val (.int (p0 &&& (7 : Int32))), .val (.ref a2), .val (.ref r3), .unset] [(.int (1 : Int32))])) (fun t_ k_ => XS.iconst X8.here hx rfl (hb hby at_129) k_) ?_
    refine own_go (T8.setTop (mkF m 134 #[.val (.int p0), .val (.int p1), .val (.int p2), .val (.int p3), .val (.int p4), .val (.int (p0 &&& (7 : Int32))), .val (.ref a2), .val (.ref r3), .unset] [(.int (1 : Int32))])) (fun t_ k_ => XS.goto X8.here hx rfl (pc0 := 130) (pc' := 134) rfl (hb hby at_130) (by decide) (by decide) k_) ?_
    obtain ⟨fs, hr, hrun, hended, hRW⟩ := X8.leaveW hS (by rw [show T8.heap = T3.heap from e8]; exact (Nat.le_refl _)) (v := some (.int (nar .boolean (1 : Int32)))) (fun h => by rw [Bd.returns] at h; cases h)
    refine ⟨_, _, retN X8 hx (t := .boolean) Bd.returns (by simp) (hb hby at_134) hr, hrun, hended, _, _, rfl, ?_, hRW.1, hRW.2.1, hRW.2.2.1, hRW.2.2.2.mono (by decide) (by decide)⟩
    show Q_law Z p0 p1 p2 p3 p4 cs0 sf0 h0 _ T8.heap _
    exact ⟨rfl, N8, trivial⟩
  ·
    refine own_go (s₁.setTop (mkF m 20 #[.val (.int p0), .val (.int p1), .val (.int p2), .val (.int p3), .val (.int p4), .val (.int (p0 &&& (7 : Int32))), .unset, .unset, .unset] [])) (fun t_ k_ => XS.icmpYes X0.here hx rfl (pc0 := 10) (pc' := 20) rfl (hb hby at_10) rfl (feq hc10_1).2 (by decide) (by decide) k_) ?_
    refine own_go (s₁.setTop (mkF m 22 #[.val (.int p0), .val (.int p1), .val (.int p2), .val (.int p3), .val (.int p4), .val (.int (p0 &&& (7 : Int32))), .unset, .unset, .unset] [(.int (p0 &&& (7 : Int32)))])) (fun t_ k_ => XS.iload X0.here hx rfl (hb hby at_20) rfl k_) ?_
    refine own_go (s₁.setTop (mkF m 23 #[.val (.int p0), .val (.int p1), .val (.int p2), .val (.int p3), .val (.int p4), .val (.int (p0 &&& (7 : Int32))), .unset, .unset, .unset] [(.int (3 : Int32)), (.int (p0 &&& (7 : Int32)))])) (fun t_ k_ => XS.iconst X0.here hx rfl (hb hby at_22) k_) ?_
    refine own_go (s₁.setTop (mkF m 24 #[.val (.int p0), .val (.int p1), .val (.int p2), .val (.int p3), .val (.int p4), .val (.int (p0 &&& (7 : Int32))), .unset, .unset, .unset] [(.int ((p0 &&& (7 : Int32)) &&& (3 : Int32)))])) (fun t_ k_ => XS.iand X0.here hx rfl (hb hby at_23) rfl k_) ?_
    refine own_go (s₁.setTop (mkF m 25 #[.val (.int p0), .val (.int p1), .val (.int p2), .val (.int p3), .val (.int p4), .val (.int (p0 &&& (7 : Int32))), .unset, .unset, .unset] [(.int (1 : Int32)), (.int ((p0 &&& (7 : Int32)) &&& (3 : Int32)))])) (fun t_ k_ => XS.iconst X0.here hx rfl (hb hby at_24) k_) ?_
    refine own_go (s₁.setTop (mkF m 26 #[.val (.int p0), .val (.int p1), .val (.int p2), .val (.int p3), .val (.int p4), .val (.int (p0 &&& (7 : Int32))), .unset, .unset, .unset] [(.int (((p0 &&& (7 : Int32)) &&& (3 : Int32)) + (1 : Int32)))])) (fun t_ k_ => XS.iadd X0.here hx rfl (hb hby at_25) rfl k_) ?_
    refine own_go (s₁.setTop (mkF m 28 #[.val (.int p0), .val (.int p1), .val (.int p2), .val (.int p3), .val (.int p4), .val (.int (p0 &&& (7 : Int32))), .unset, .val (.int (((p0 &&& (7 : Int32)) &&& (3 : Int32)) + (1 : Int32))), .unset] [])) (fun t_ k_ => XS.istore X0.here hx rfl (hb hby at_26) rfl (l' := #[.val (.int p0), .val (.int p1), .val (.int p2), .val (.int p3), .val (.int p4), .val (.int (p0 &&& (7 : Int32))), .unset, .val (.int (((p0 &&& (7 : Int32)) &&& (3 : Int32)) + (1 : Int32))), .unset]) rfl k_) ?_
    rcases own_and3 (p0 &&& (7 : Int32)) with q | q | q | q
    ·
      rw [q]
      rw [show ((0 : Int32) + 1) = 1 from rfl]
      refine own_go (s₁.setTop (mkF m 30 #[.val (.int p0), .val (.int p1), .val (.int p2), .val (.int p3), .val (.int p4), .val (.int (p0 &&& (7 : Int32))), .unset, .val (.int (1 : Int32)), .unset] [(.int (1 : Int32))])) (fun t_ k_ => XS.iload X0.here hx rfl (hb hby at_28) rfl k_) ?_
      obtain ⟨T9, h9, k9, X9, e9, E9, A9, st9⟩ := newP X0 hx hZ (hw _ (List.mem_of_getElem? (i := 0) rfl)) e0 (g := (mkF m 30 #[.val (.int p0), .val (.int p1), .val (.int p2), .val (.int p3), .val (.int p4), .val (.int (p0 &&& (7 : Int32))), .unset, .val (.int (1 : Int32)), .unset] [(.int (1 : Int32))])) rfl (hb hby at_30) rfl (by decide) (cap := 1) (by decide) (by decide) (by decide) (by decide)
      obtain ⟨b9, g9⟩ : ∃ z, z = h0.size := ⟨_, rfl⟩
      rw [← g9] at A9 st9
      have ge_b9 : Z.heap.size ≤ b9 := Nat.le_trans O.1 (Nat.le_of_eq g9.symm)
      have sz_b9 : h0.size ≤ b9 := Nat.le_trans (Keep.refl h0 []).1 (Nat.le_of_eq g9.symm)
      have R9 := R0.trans (CHr.ext E9 R0.1)
      have Sf9 := Safe.ext (x := b9) E9 R0.1 (Safe.new (Nat.le_of_eq g9.symm))
      have K9 : Keep h0 h9 [] := (Keep.refl h0 []).ext E9
      have O9 := own_ext O E9
      have V9 : Arv Z h9 b9 k9 .char (1 : Int32) [(.int (0 : Int32))] (.int (0 : Int32)) := (Arv.new A9 (by decide)).pad (pad_rep [] (.int (0 : Int32)) 1)
      refine own_go (T9.setTop (mkF m 32 #[.val (.int p0), .val (.int p1), .val (.int p2), .val (.int p3), .val (.int p4), .val (.int (p0 &&& (7 : Int32))), .unset, .val (.int (1 : Int32)), .unset] [(.ref b9)])) (fun t_ k_ => st9 _ k_) ?_
      refine own_go (T9.setTop (mkF m 34 #[.val (.int p0), .val (.int p1), .val (.int p2), .val (.int p3), .val (.int p4), .val (.int (p0 &&& (7 : Int32))), .unset, .val (.int (1 : Int32)), .val (.ref b9)] [])) (fun t_ k_ => XS.astore X9.here hx rfl (hb hby at_32) rfl rfl (l' := #[.val (.int p0), .val (.int p1), .val (.int p2), .val (.int p3), .val (.int p4), .val (.int (p0 &&& (7 : Int32))), .unset, .val (.int (1 : Int32)), .val (.ref b9)]) rfl k_) ?_
      refine own_go (T9.setTop (mkF m 36 #[.val (.int p0), .val (.int p1), .val (.int p2), .val (.int p3), .val (.int p4), .val (.int (p0 &&& (7 : Int32))), .unset, .val (.int (1 : Int32)), .val (.ref b9)] [(.ref b9)])) (fun t_ k_ => XS.aload X9.here hx rfl (hb hby at_34) rfl rfl k_) ?_
      refine own_go (T9.setTop (mkF m 37 #[.val (.int p0), .val (.int p1), .val (.int p2), .val (.int p3), .val (.int p4), .val (.int (p0 &&& (7 : Int32))), .unset, .val (.int (1 : Int32)), .val (.ref b9)] [(.int (0 : Int32)), (.ref b9)])) (fun t_ k_ => XS.iconst X9.here hx rfl (hb hby at_36) k_) ?_
      refine own_go (T9.setTop (mkF m 38 #[.val (.int p0), .val (.int p1), .val (.int p2), .val (.int p3), .val (.int p4), .val (.int (p0 &&& (7 : Int32))), .unset, .val (.int (1 : Int32)), .val (.ref b9)] [(.int p1), (.int (0 : Int32)), (.ref b9)])) (fun t_ k_ => XS.iloadN X9.here hx rfl (hb hby at_37) rfl k_) ?_
      obtain ⟨_, _, ⟨T10, Lu10, ku10, nu10⟩, -, X10, ⟨Lc10, hQ10, lu10, yu10, zu10⟩, st10⟩ := Jvm.LawKit.callS X9 hx (y := (⟨"com/example/salp/salp/model/EdgeTypeOfPinLaw", "ch", "(I)C"⟩ : MethodName)) hown (mvT hZ (hw _ (List.mem_of_getElem? (i := 1) rfl))) (mvT hZ (hw _ (List.mem_of_getElem? (i := 2) rfl))) (mvT hZ (hw _ (List.mem_of_getElem? (i := 3) rfl))) (mvT hZ (hw _ (List.mem_of_getElem? (i := 4) rfl))) (by decide) (backOf (W := 2) (rm_ch l Z a0 hw [] (p1) h9 O9 ) hZ (hw _ (List.mem_of_getElem? (i := 4) rfl)) (hw _ (List.mem_of_getElem? (i := 3) rfl)) (by decide) (by decide)) (g := (mkF m 38 #[.val (.int p0), .val (.int p1), .val (.int p2), .val (.int p3), .val (.int p4), .val (.int (p0 &&& (7 : Int32))), .unset, .val (.int (1 : Int32)), .val (.ref b9)] [(.int p1), (.int (0 : Int32)), (.ref b9)])) rfl (by rw [hml]; rfl) (argsL := [(.int p1)]) (rest := [(.int (0 : Int32)), (.ref b9)]) (lenOf own_pd4 rfl) rfl (by show 2 * 0 + _ ≤ _; exact Nat.le_of_eq rfl) (hb hby at_38) (fun _ _ => ⟨rfl, e9, (by decide : 1 + 0 ≤ _), (by decide : 1 + 0 ≤ _)⟩)
      dsimp only [Pt.U, Pt.locs, Pt.cells, Pt.slots] at X10 lu10 yu10 zu10 st10 hQ10
      subst lu10 yu10 zu10
      obtain ⟨c10, rfl, N10q, hc10, e10⟩ := hQ10
      have N10 := Fr.app N0 N10q
      refine own_go (T10.setTop (mkF m 41 #[.val (.int p0), .val (.int p1), .val (.int p2), .val (.int p3), .val (.int p4), .val (.int (p0 &&& (7 : Int32))), .unset, .val (.int (1 : Int32)), .val (.ref b9)] [(.int c10), (.int (0 : Int32)), (.ref b9)])) (fun t_ k_ => st10 _ k_) ?_
      obtain ⟨cl11, Ar11, q11, Sz11, Nz11, Hz11, Gz11⟩ := V9
      have hin11 : ¬ ((0 : Int32) < 0 ∨ cl11.slots.size ≤ ((0 : Int32)).toNatClampNeg) := inb_of Sz11 ⟨by decide, by decide⟩
      obtain ⟨T11, h11, X11, e11, W11, st11⟩ := stC X10 hx hZ e10 Ar11 (j := (0 : Int32)) hin11  (g := (mkF m 41 #[.val (.int p0), .val (.int p1), .val (.int p2), .val (.int p3), .val (.int p4), .val (.int (p0 &&& (7 : Int32))), .unset, .val (.int (1 : Int32)), .val (.ref b9)] [(.int c10), (.int (0 : Int32)), (.ref b9)])) rfl rfl (hb hby at_41)
      have R11 := R9.trans (CHr.wr W11 Sf9 R9.1)
      have V11 : Arv Z h11 b9 k9 .char (1 : Int32) [(.int (nar .char c10))] (.int (0 : Int32)) := Arv.set Ar11 q11 Sz11 Nz11 Hz11 Gz11 (fits_nar_char _) W11 0 rfl (Nat.le_of_ble_eq_true rfl)
      have K11 : Keep h0 h11 [] := K9.wr W11 (Or.inr sz_b9)
      have N11 := Fr.snoc X11 N10 ge_b9
      have O11 := own_extW O9 W11 ge_b9
      refine own_go (T11.setTop (mkF m 42 #[.val (.int p0), .val (.int p1), .val (.int p2), .val (.int p3), .val (.int p4), .val (.int (p0 &&& (7 : Int32))), .unset, .val (.int (1 : Int32)), .val (.ref b9)] [])) (fun t_ k_ => st11 _ k_) ?_
      refine own_go (T11.setTop (mkF m 44 #[.val (.int p0), .val (.int p1), .val (.int p2), .val (.int p3), .val (.int p4), .val (.int (p0 &&& (7 : Int32))), .unset, .val (.int (1 : Int32)), .val (.ref b9)] [(.int (1 : Int32))])) (fun t_ k_ => XS.iload X11.here hx rfl (hb hby at_42) rfl k_) ?_
      refine own_go (T11.setTop (mkF m 45 #[.val (.int p0), .val (.int p1), .val (.int p2), .val (.int p3), .val (.int p4), .val (.int (p0 &&& (7 : Int32))), .unset, .val (.int (1 : Int32)), .val (.ref b9)] [(.int (1 : Int32)), (.int (1 : Int32))])) (fun t_ k_ => XS.iconst X11.here hx rfl (hb hby at_44) k_) ?_
      refine own_go (T11.setTop (mkF m 56 #[.val (.int p0), .val (.int p1), .val (.int p2), .val (.int p3), .val (.int p4), .val (.int (p0 &&& (7 : Int32))), .unset, .val (.int (1 : Int32)), .val (.ref b9)] [])) (fun t_ k_ => XS.icmpYes X11.here hx rfl (pc0 := 45) (pc' := 56) rfl (hb hby at_45) rfl (flt (by decide : ¬ ((1 : Int32) < (1 : Int32)))).2.2.2 (by decide) (by decide) k_) ?_
      refine own_go (T11.setTop (mkF m 58 #[.val (.int p0), .val (.int p1), .val (.int p2), .val (.int p3), .val (.int p4), .val (.int (p0 &&& (7 : Int32))), .unset, .val (.int (1 : Int32)), .val (.ref b9)] [(.int (1 : Int32))])) (fun t_ k_ => XS.iload X11.here hx rfl (hb hby at_56) rfl k_) ?_
      refine own_go (T11.setTop (mkF m 59 #[.val (.int p0), .val (.int p1), .val (.int p2), .val (.int p3), .val (.int p4), .val (.int (p0 &&& (7 : Int32))), .unset, .val (.int (1 : Int32)), .val (.ref b9)] [(.int (2 : Int32)), (.int (1 : Int32))])) (fun t_ k_ => XS.iconst X11.here hx rfl (hb hby at_58) k_) ?_
      refine own_go (T11.setTop (mkF m 70 #[.val (.int p0), .val (.int p1), .val (.int p2), .val (.int p3), .val (.int p4), .val (.int (p0 &&& (7 : Int32))), .unset, .val (.int (1 : Int32)), .val (.ref b9)] [])) (fun t_ k_ => XS.icmpYes X11.here hx rfl (pc0 := 59) (pc' := 70) rfl (hb hby at_59) rfl (flt (by decide : ¬ ((2 : Int32) < (1 : Int32)))).2.2.2 (by decide) (by decide) k_) ?_
      refine own_go (T11.setTop (mkF m 72 #[.val (.int p0), .val (.int p1), .val (.int p2), .val (.int p3), .val (.int p4), .val (.int (p0 &&& (7 : Int32))), .unset, .val (.int (1 : Int32)), .val (.ref b9)] [(.int (1 : Int32))])) (fun t_ k_ => XS.iload X11.here hx rfl (hb hby at_70) rfl k_) ?_
      refine own_go (T11.setTop (mkF m 73 #[.val (.int p0), .val (.int p1), .val (.int p2), .val (.int p3), .val (.int p4), .val (.int (p0 &&& (7 : Int32))), .unset, .val (.int (1 : Int32)), .val (.ref b9)] [(.int (3 : Int32)), (.int (1 : Int32))])) (fun t_ k_ => XS.iconst X11.here hx rfl (hb hby at_72) k_) ?_
      refine own_go (T11.setTop (mkF m 85 #[.val (.int p0), .val (.int p1), .val (.int p2), .val (.int p3), .val (.int p4), .val (.int (p0 &&& (7 : Int32))), .unset, .val (.int (1 : Int32)), .val (.ref b9)] [])) (fun t_ k_ => XS.icmpYes X11.here hx rfl (pc0 := 73) (pc' := 85) rfl (hb hby at_73) rfl (flt (by decide : ¬ ((3 : Int32) < (1 : Int32)))).2.2.2 (by decide) (by decide) k_) ?_
      obtain ⟨T12, h12, X12, e12, E12, A12, D12, U12, st12⟩ := newO X11 hx hZ hown (hw _ (List.mem_of_getElem? (i := 6) rfl)) (hw _ (List.mem_of_getElem? (i := 7) rfl)) (hw _ (List.mem_of_getElem? (i := 8) rfl)) e11 (g := (mkF m 85 #[.val (.int p0), .val (.int p1), .val (.int p2), .val (.int p3), .val (.int p4), .val (.int (p0 &&& (7 : Int32))), .unset, .val (.int (1 : Int32)), .val (.ref b9)] [])) rfl (hb hby at_85) (by decide) (by decide)
      obtain ⟨b12, g12⟩ : ∃ z, z = h11.size := ⟨_, rfl⟩
      rw [← g12] at A12 D12 U12 st12
      have ge_b12 : Z.heap.size ≤ b12 := Nat.le_trans O11.1 (Nat.le_of_eq g12.symm)
      have sz_b12 : h0.size ≤ b12 := Nat.le_trans K11.1 (Nat.le_of_eq g12.symm)
      have R12 := R11.trans (CHr.ext E12 R11.1)
      have Sf12 := Safe.ext (x := b12) E12 R11.1 (Safe.new (Nat.le_of_eq g12.symm))
      have K12 : Keep h0 h12 [] := K11.ext E12
      have O12 := own_ext O11 E12
      have Fcoder_12 : Fld Z h12 b12 "java/lang/String" "coder" "B" (.int (0 : Int32)) := D12 (Or.inr (hw _ (List.mem_of_getElem? (i := 32) rfl))) (ty := .byte) (by decide)
      have Fvalue_12 : Fld Z h12 b12 "java/lang/String" "value" "[B" .null := D12 (Or.inr (hw _ (List.mem_of_getElem? (i := 34) rfl))) (ty := (.array .byte)) (by decide)
      refine own_go (T12.setTop (mkF m 88 #[.val (.int p0), .val (.int p1), .val (.int p2), .val (.int p3), .val (.int p4), .val (.int (p0 &&& (7 : Int32))), .unset, .val (.int (1 : Int32)), .val (.ref b9)] [(.ref b12)])) (fun t_ k_ => st12 _ k_) ?_
      refine own_go (T12.setTop (mkF m 89 #[.val (.int p0), .val (.int p1), .val (.int p2), .val (.int p3), .val (.int p4), .val (.int (p0 &&& (7 : Int32))), .unset, .val (.int (1 : Int32)), .val (.ref b9)] [(.ref b12), (.ref b12)])) (fun t_ k_ => XS.dup X12.here hx rfl (hb hby at_88) rfl rfl k_) ?_
      refine own_go (T12.setTop (mkF m 91 #[.val (.int p0), .val (.int p1), .val (.int p2), .val (.int p3), .val (.int p4), .val (.int (p0 &&& (7 : Int32))), .unset, .val (.int (1 : Int32)), .val (.ref b9)] [(.ref b9), (.ref b12), (.ref b12)])) (fun t_ k_ => XS.aload X12.here hx rfl (hb hby at_89) rfl rfl k_) ?_
      have hp13 : ∀ c ∈ ([(nar .char c10)] : List Int32), ¬ c < 0 ∧ ¬ (255 : Int32) < c := (own_allS (own_okb _ (own_narok _ hc10)) own_all0)
      have Fz14 := (V11.ext E12)
      obtain ⟨_, _, ⟨T15, Lu15, ku15, nu15⟩, -, X15, ⟨Lc15, hQ15, lu15, yu15, zu15⟩, st15⟩ := X12.specialBack hx (y := (⟨"java/lang/String", "<init>", "([C)V"⟩ : MethodName)) rfl hown (mvT hZ (hw _ (List.mem_of_getElem? (i := 9) rfl))) (mvT hZ (hw _ (List.mem_of_getElem? (i := 10) rfl))) (mvT hZ (hw _ (List.mem_of_getElem? (i := 11) rfl))) (by decide) (StrChars.Road.backV (W := 1) hZ (fun d hd => hw d (own_words d hd)) (kI := 4) (hw _ (List.mem_of_getElem? (i := 7) rfl)) (cs := ([(nar .char c10)] : List Int32)) (bs := (([(nar .char c10)] : List Int32)).map (fun c => c.toInt8.toInt32)) (n := 1) (n0 := Z.heap.size) ge_b12 (O12.1) A12 Fvalue_12 Fcoder_12 Fz14 (S_CS.ext O12) n_CS rfl rfl (by decide) (by decide) hp13 rfl (by decide) (by decide)) (g := (mkF m 91 #[.val (.int p0), .val (.int p1), .val (.int p2), .val (.int p3), .val (.int p4), .val (.int (p0 &&& (7 : Int32))), .unset, .val (.int (1 : Int32)), .val (.ref b9)] [(.ref b9), (.ref b12), (.ref b12)])) rfl (by rw [hml]; rfl) (Steps.refl _) (a := b12) (argsL := [(.ref b9)]) (rest := [(.ref b12)]) (lenOf own_pd8 rfl) rfl (by show 2 * 0 + _ ≤ _; exact Nat.le_of_eq rfl) (hb hby at_91) (fun _ _ => ⟨rfl, e12, (by decide : 2 + 1 ≤ _), (by decide : 5 + 1 ≤ _)⟩)
      dsimp only [Pt.U, Pt.locs, Pt.cells, Pt.slots] at X15 lu15 yu15 zu15 st15 hQ15
      subst lu15 yu15 zu15
      obtain ⟨rfl, N15q, K15q, X15q, C15q, t15, kb15, u1_15, u2_15, u3_15, V15q, A15q⟩ := hQ15
      have N15 := Fr.app N11 N15q
      have O15 := own_extK O12 K15q (allS ge_b12 all0)
      have KK15 : Keep h0 T15.heap [] := K12.trans K15q (allS (Or.inr sz_b12) all0)
      have R15 := R12.trans (CHr.keep K15q (allS Sf12 all0) R12.1)
      refine own_go (T15.setTop (mkF m 94 #[.val (.int p0), .val (.int p1), .val (.int p2), .val (.int p3), .val (.int p4), .val (.int (p0 &&& (7 : Int32))), .unset, .val (.int (1 : Int32)), .val (.ref b9)] [(.ref b12)])) (fun t_ k_ => st15.trans k_) ?_
      refine own_go (T15.setTop (mkF m 96 #[.val (.int p0), .val (.int p1), .val (.int p2), .val (.int p3), .val (.int p4), .val (.int (p0 &&& (7 : Int32))), .val (.ref b12), .val (.int (1 : Int32)), .val (.ref b9)] [])) (fun t_ k_ => XS.astore X15.here hx rfl (hb hby at_94) rfl rfl (l' := #[.val (.int p0), .val (.int p1), .val (.int p2), .val (.int p3), .val (.int p4), .val (.int (p0 &&& (7 : Int32))), .val (.ref b12), .val (.int (1 : Int32)), .val (.ref b9)]) rfl k_) ?_
      refine own_go (T15.setTop (mkF m 98 #[.val (.int p0), .val (.int p1), .val (.int p2), .val (.int p3), .val (.int p4), .val (.int (p0 &&& (7 : Int32))), .val (.ref b12), .val (.int (1 : Int32)), .val (.ref b9)] [(.ref b12)])) (fun t_ k_ => XS.aload X15.here hx rfl (hb hby at_96) rfl rfl k_) ?_
      obtain ⟨_, _, ⟨T16, Lu16, ku16, nu16⟩, -, X16, hS16, hg16, ⟨Lc16, hQ16, lu16, yu16, zu16⟩, st16⟩ := callSS X15 hx (y := (⟨"com/example/salp/salp/model/EdgeType", "of", "(Ljava/lang/String;)Lcom/example/salp/salp/model/EdgeType;"⟩ : MethodName)) hown (mvT hZ (hw _ (List.mem_of_getElem? (i := 35) rfl))) (mvT hZ (hw _ (List.mem_of_getElem? (i := 36) rfl))) (mvT hZ (hw _ (List.mem_of_getElem? (i := 37) rfl))) (mvT hZ (hw _ (List.mem_of_getElem? (i := 38) rfl))) (by decide) (backOfS (W := 0) (rm_of l Z a0 hw [] (b12) (t15) (kb15) (([(nar .char c10)] : List Int32)) (cs0) (sf0) T15.heap O15 w X15q V15q C15q A15q (own_okAS (own_narok _ hc10) own_okA0) (Nat.le_of_ble_eq_true rfl) (Nat.le_of_ble_eq_true rfl)) hZ (hw _ (List.mem_of_getElem? (i := 38) rfl)) (hw _ (List.mem_of_getElem? (i := 37) rfl)) (by decide) (by decide)) (g := (mkF m 98 #[.val (.int p0), .val (.int p1), .val (.int p2), .val (.int p3), .val (.int p4), .val (.int (p0 &&& (7 : Int32))), .val (.ref b12), .val (.int (1 : Int32)), .val (.ref b9)] [(.ref b12)])) rfl (by rw [hml]; rfl) (argsL := [(.ref b12)]) (rest := []) (lenOf own_pd5 rfl) rfl (by show 2 * 0 + _ ≤ _; exact Nat.le_of_eq rfl) (hb hby at_98) (fun _ _ => ⟨rfl, rfl, (by decide : 3 + 3 ≤ _), (by decide : 6 + 21 ≤ _)⟩)
      dsimp only [Pt.U, Pt.locs, Pt.cells, Pt.slots] at X16 lu16 yu16 zu16 st16 hQ16 hS16 hg16
      subst lu16 yu16 zu16
      obtain ⟨X16, hS, hZ, hown⟩ := rebS hS (by rw [show T15.heap = T15.heap from rfl]; exact (Nat.le_trans (Nat.le_trans (Nat.le_trans (Nat.le_trans hk E9.1) (Keep.of_wr W11).1) E12.1) K15q.1)) X16 hS16 hg16 hZ hown
      obtain ⟨r16, rfl, N16q, K16q, X16q, F16q⟩ := hQ16
      have N16 := Fr.app N15 N16q
      have O16 := own_extK O15 K16q all0
      have KK16 : Keep h0 T16.heap [] := KK15.trans K16q all0
      refine own_go (T16.setTop (mkF m 101 #[.val (.int p0), .val (.int p1), .val (.int p2), .val (.int p3), .val (.int p4), .val (.int (p0 &&& (7 : Int32))), .val (.ref b12), .val (.int (1 : Int32)), .val (.ref b9)] [(.ref r16)])) (fun t_ k_ => st16.trans k_) ?_
      refine own_go (T16.setTop (mkF m 103 #[.val (.int p0), .val (.int p1), .val (.int p2), .val (.int p3), .val (.int p4), .val (.int (p0 &&& (7 : Int32))), .val (.ref b12), .val (.ref r16), .val (.ref b9)] [])) (fun t_ k_ => XS.astore X16.here hx rfl (hb hby at_101) rfl rfl (l' := #[.val (.int p0), .val (.int p1), .val (.int p2), .val (.int p3), .val (.int p4), .val (.int (p0 &&& (7 : Int32))), .val (.ref b12), .val (.ref r16), .val (.ref b9)]) rfl k_) ?_
      refine own_go (T16.setTop (mkF m 105 #[.val (.int p0), .val (.int p1), .val (.int p2), .val (.int p3), .val (.int p4), .val (.int (p0 &&& (7 : Int32))), .val (.ref b12), .val (.ref r16), .val (.ref b9)] [(.ref r16)])) (fun t_ k_ => XS.aload X16.here hx rfl (hb hby at_103) rfl rfl k_) ?_
      obtain ⟨cq17, kq17, q17a, q17b, q17c⟩ := isOf hZ rfl X16q
      obtain ⟨_, _, ⟨T17, Lu17, ku17, nu17⟩, -, X17, ⟨Lc17, hQ17, lu17, yu17, zu17⟩, st17⟩ := X16.virtualBack hx (y := (⟨"com/example/salp/salp/model/EdgeType", "name", "()Ljava/lang/String;"⟩ : MethodName)) (z := (⟨"com/example/salp/salp/model/EdgeType", "name", "()Ljava/lang/String;"⟩ : MethodName)) hown (mvT hZ (hw _ (List.mem_of_getElem? (i := 91) rfl))) (mvT hZ (hw _ (List.mem_of_getElem? (i := 92) rfl))) (notFace_of_selects (args := #[]) (mvT hZ (hw _ (List.mem_of_getElem? (i := 94) rfl)))) (mvT hZ (hw _ (List.mem_of_getElem? (i := 94) rfl))) (mvT hZ (hw _ (List.mem_of_getElem? (i := 93) rfl))) (by decide) (backOf (W := 0) (rm_gn l Z a0 hw [] (r16) (b12) T16.heap O16 F16q) hZ (hw _ (List.mem_of_getElem? (i := 95) rfl)) (hw _ (List.mem_of_getElem? (i := 37) rfl)) (by decide) (by decide)) q17a q17c (g := (mkF m 105 #[.val (.int p0), .val (.int p1), .val (.int p2), .val (.int p3), .val (.int p4), .val (.int (p0 &&& (7 : Int32))), .val (.ref b12), .val (.ref r16), .val (.ref b9)] [(.ref r16)])) rfl (by rw [hml]; rfl) (Steps.refl _) (argsL := []) (rest := []) (lenOf own_pd6 rfl) rfl (by show 2 * 0 + _ ≤ _; exact Nat.le_of_eq rfl) (hb hby at_105) (fun _ _ => ⟨rfl, rfl, (by decide : 6 + 0 ≤ _), (by decide : 27 + 0 ≤ _)⟩)
      dsimp only [Pt.U, Pt.locs, Pt.cells, Pt.slots] at X17 lu17 yu17 zu17 st17 hQ17
      subst lu17 yu17 zu17
      obtain ⟨rfl, N17q, e17⟩ := hQ17
      have N17 := Fr.app N16 N17q
      refine own_go (T17.setTop (mkF m 108 #[.val (.int p0), .val (.int p1), .val (.int p2), .val (.int p3), .val (.int p4), .val (.int (p0 &&& (7 : Int32))), .val (.ref b12), .val (.ref r16), .val (.ref b9)] [(.ref b12)])) (fun t_ k_ => st17.trans k_) ?_
      refine own_go (T17.setTop (mkF m 110 #[.val (.int p0), .val (.int p1), .val (.int p2), .val (.int p3), .val (.int p4), .val (.int (p0 &&& (7 : Int32))), .val (.ref b12), .val (.ref r16), .val (.ref b9)] [(.ref b12), (.ref b12)])) (fun t_ k_ => XS.aload X17.here hx rfl (hb hby at_108) rfl rfl k_) ?_
      have Fz19 := (X15q.keep K16q)
      obtain ⟨cq18, kq18, q18a, q18b, q18c⟩ := isOf hZ e17 Fz19
      obtain ⟨_, _, ⟨T18, Lu18, ku18, nu18⟩, -, X18, ⟨Lc18, hQ18, lu18, yu18, zu18⟩, st18⟩ := X17.virtualBack hx (y := (⟨"java/lang/String", "equals", "(Ljava/lang/Object;)Z"⟩ : MethodName)) (z := (⟨"java/lang/String", "equals", "(Ljava/lang/Object;)Z"⟩ : MethodName)) hown (mvT hZ (hw _ (List.mem_of_getElem? (i := 96) rfl))) (mvT hZ (hw _ (List.mem_of_getElem? (i := 97) rfl))) (notFace_of_selects (args := #[]) (mvT hZ (hw _ (List.mem_of_getElem? (i := 99) rfl)))) (mvT hZ (hw _ (List.mem_of_getElem? (i := 99) rfl))) (mvT hZ (hw _ (List.mem_of_getElem? (i := 98) rfl))) (by decide) (backOf (W := 0) (rm_eqs l Z a0 hw [] (b12) T16.heap O16 ) hZ (hw _ (List.mem_of_getElem? (i := 100) rfl)) (hw _ (List.mem_of_getElem? (i := 8) rfl)) (by decide) (by decide)) q18a q18c (g := (mkF m 110 #[.val (.int p0), .val (.int p1), .val (.int p2), .val (.int p3), .val (.int p4), .val (.int (p0 &&& (7 : Int32))), .val (.ref b12), .val (.ref r16), .val (.ref b9)] [(.ref b12), (.ref b12)])) rfl (by rw [hml]; rfl) (Steps.refl _) (argsL := [(.ref b12)]) (rest := []) (lenOf own_pd7 rfl) rfl (by show 2 * 0 + _ ≤ _; exact Nat.le_of_eq rfl) (hb hby at_110) (fun _ _ => ⟨rfl, e17, (by decide : 6 + 0 ≤ _), (by decide : 27 + 0 ≤ _)⟩)
      dsimp only [Pt.U, Pt.locs, Pt.cells, Pt.slots] at X18 lu18 yu18 zu18 st18 hQ18
      subst lu18 yu18 zu18
      obtain ⟨rfl, N18q, e18⟩ := hQ18
      have N18 := Fr.app N17 N18q
      refine own_go (T18.setTop (mkF m 113 #[.val (.int p0), .val (.int p1), .val (.int p2), .val (.int p3), .val (.int p4), .val (.int (p0 &&& (7 : Int32))), .val (.ref b12), .val (.ref r16), .val (.ref b9)] [(.int (1 : Int32))])) (fun t_ k_ => st18.trans k_) ?_
      refine own_go (T18.setTop (mkF m 116 #[.val (.int p0), .val (.int p1), .val (.int p2), .val (.int p3), .val (.int p4), .val (.int (p0 &&& (7 : Int32))), .val (.ref b12), .val (.ref r16), .val (.ref b9)] [])) (fun t_ k_ => XS.ifNo X18.here hx rfl (hb hby at_113) rfl ((if0 _ _).trans (feq (by decide : ¬ ((1 : Int32) = (0 : Int32)))).1) k_) ?_
      refine own_go (T18.setTop (mkF m 118 #[.val (.int p0), .val (.int p1), .val (.int p2), .val (.int p3), .val (.int p4), .val (.int (p0 &&& (7 : Int32))), .val (.ref b12), .val (.ref r16), .val (.ref b9)] [(.ref r16)])) (fun t_ k_ => XS.aload X18.here hx rfl (hb hby at_116) rfl rfl k_) ?_
      obtain ⟨cq20, kq20, q20a, q20b, q20c⟩ := isOf hZ e18 X16q
      obtain ⟨_, _, ⟨T20, Lu20, ku20, nu20⟩, -, X20, ⟨Lc20, hQ20, lu20, yu20, zu20⟩, st20⟩ := X18.virtualBack hx (y := (⟨"com/example/salp/salp/model/EdgeType", "toString", "()Ljava/lang/String;"⟩ : MethodName)) (z := (⟨"com/example/salp/salp/model/EdgeType", "toString", "()Ljava/lang/String;"⟩ : MethodName)) hown (mvT hZ (hw _ (List.mem_of_getElem? (i := 101) rfl))) (mvT hZ (hw _ (List.mem_of_getElem? (i := 102) rfl))) (notFace_of_selects (args := #[]) (mvT hZ (hw _ (List.mem_of_getElem? (i := 104) rfl)))) (mvT hZ (hw _ (List.mem_of_getElem? (i := 104) rfl))) (mvT hZ (hw _ (List.mem_of_getElem? (i := 103) rfl))) (by decide) (backOf (W := 0) (rm_gt l Z a0 hw [] (r16) (b12) T16.heap O16 F16q) hZ (hw _ (List.mem_of_getElem? (i := 105) rfl)) (hw _ (List.mem_of_getElem? (i := 37) rfl)) (by decide) (by decide)) q20a q20c (g := (mkF m 118 #[.val (.int p0), .val (.int p1), .val (.int p2), .val (.int p3), .val (.int p4), .val (.int (p0 &&& (7 : Int32))), .val (.ref b12), .val (.ref r16), .val (.ref b9)] [(.ref r16)])) rfl (by rw [hml]; rfl) (Steps.refl _) (argsL := []) (rest := []) (lenOf own_pd6 rfl) rfl (by show 2 * 0 + _ ≤ _; exact Nat.le_of_eq rfl) (hb hby at_118) (fun _ _ => ⟨rfl, e18, (by decide : 6 + 0 ≤ _), (by decide : 27 + 0 ≤ _)⟩)
      dsimp only [Pt.U, Pt.locs, Pt.cells, Pt.slots] at X20 lu20 yu20 zu20 st20 hQ20
      subst lu20 yu20 zu20
      obtain ⟨rfl, N20q, e20⟩ := hQ20
      have N20 := Fr.app N18 N20q
      refine own_go (T20.setTop (mkF m 121 #[.val (.int p0), .val (.int p1), .val (.int p2), .val (.int p3), .val (.int p4), .val (.int (p0 &&& (7 : Int32))), .val (.ref b12), .val (.ref r16), .val (.ref b9)] [(.ref b12)])) (fun t_ k_ => st20.trans k_) ?_
      refine own_go (T20.setTop (mkF m 123 #[.val (.int p0), .val (.int p1), .val (.int p2), .val (.int p3), .val (.int p4), .val (.int (p0 &&& (7 : Int32))), .val (.ref b12), .val (.ref r16), .val (.ref b9)] [(.ref b12), (.ref b12)])) (fun t_ k_ => XS.aload X20.here hx rfl (hb hby at_121) rfl rfl k_) ?_
      obtain ⟨cq21, kq21, q21a, q21b, q21c⟩ := isOf hZ e20 Fz19
      obtain ⟨_, _, ⟨T21, Lu21, ku21, nu21⟩, -, X21, ⟨Lc21, hQ21, lu21, yu21, zu21⟩, st21⟩ := X20.virtualBack hx (y := (⟨"java/lang/String", "equals", "(Ljava/lang/Object;)Z"⟩ : MethodName)) (z := (⟨"java/lang/String", "equals", "(Ljava/lang/Object;)Z"⟩ : MethodName)) hown (mvT hZ (hw _ (List.mem_of_getElem? (i := 96) rfl))) (mvT hZ (hw _ (List.mem_of_getElem? (i := 97) rfl))) (notFace_of_selects (args := #[]) (mvT hZ (hw _ (List.mem_of_getElem? (i := 99) rfl)))) (mvT hZ (hw _ (List.mem_of_getElem? (i := 99) rfl))) (mvT hZ (hw _ (List.mem_of_getElem? (i := 98) rfl))) (by decide) (backOf (W := 0) (rm_eqs l Z a0 hw [] (b12) T16.heap O16 ) hZ (hw _ (List.mem_of_getElem? (i := 100) rfl)) (hw _ (List.mem_of_getElem? (i := 8) rfl)) (by decide) (by decide)) q21a q21c (g := (mkF m 123 #[.val (.int p0), .val (.int p1), .val (.int p2), .val (.int p3), .val (.int p4), .val (.int (p0 &&& (7 : Int32))), .val (.ref b12), .val (.ref r16), .val (.ref b9)] [(.ref b12), (.ref b12)])) rfl (by rw [hml]; rfl) (Steps.refl _) (argsL := [(.ref b12)]) (rest := []) (lenOf own_pd7 rfl) rfl (by show 2 * 0 + _ ≤ _; exact Nat.le_of_eq rfl) (hb hby at_123) (fun _ _ => ⟨rfl, e20, (by decide : 6 + 0 ≤ _), (by decide : 27 + 0 ≤ _)⟩)
      dsimp only [Pt.U, Pt.locs, Pt.cells, Pt.slots] at X21 lu21 yu21 zu21 st21 hQ21
      subst lu21 yu21 zu21
      obtain ⟨rfl, N21q, e21⟩ := hQ21
      have N21 := Fr.app N20 N21q
      refine own_go (T21.setTop (mkF m 126 #[.val (.int p0), .val (.int p1), .val (.int p2), .val (.int p3), .val (.int p4), .val (.int (p0 &&& (7 : Int32))), .val (.ref b12), .val (.ref r16), .val (.ref b9)] [(.int (1 : Int32))])) (fun t_ k_ => st21.trans k_) ?_
      refine own_go (T21.setTop (mkF m 129 #[.val (.int p0), .val (.int p1), .val (.int p2), .val (.int p3), .val (.int p4), .val (.int (p0 &&& (7 : Int32))), .val (.ref b12), .val (.ref r16), .val (.ref b9)] [])) (fun t_ k_ => XS.ifNo X21.here hx rfl (hb hby at_126) rfl ((if0 _ _).trans (feq (by decide : ¬ ((1 : Int32) = (0 : Int32)))).1) k_) ?_
      refine own_go (T21.setTop (mkF m 130 #[.val (.int p0), .val (.int p1), .val (.int p2), .val (.int p3), .val (.int p4), .val (.int (p0 &&& (7 : Int32))), .val (.ref b12), .val (.ref r16), .val (.ref b9)] [(.int (1 : Int32))])) (fun t_ k_ => XS.iconst X21.here hx rfl (hb hby at_129) k_) ?_
      refine own_go (T21.setTop (mkF m 134 #[.val (.int p0), .val (.int p1), .val (.int p2), .val (.int p3), .val (.int p4), .val (.int (p0 &&& (7 : Int32))), .val (.ref b12), .val (.ref r16), .val (.ref b9)] [(.int (1 : Int32))])) (fun t_ k_ => XS.goto X21.here hx rfl (pc0 := 130) (pc' := 134) rfl (hb hby at_130) (by decide) (by decide) k_) ?_
      obtain ⟨fs, hr, hrun, hended, hRW⟩ := X21.leaveW hS (by rw [show T21.heap = T16.heap from e21]; exact (Nat.le_refl _)) (v := some (.int (nar .boolean (1 : Int32)))) (fun h => by rw [Bd.returns] at h; cases h)
      refine ⟨_, _, retN X21 hx (t := .boolean) Bd.returns (by simp) (hb hby at_134) hr, hrun, hended, _, _, rfl, ?_, hRW.1, hRW.2.1, hRW.2.2.1, hRW.2.2.2.mono (by decide) (by decide)⟩
      show Q_law Z p0 p1 p2 p3 p4 cs0 sf0 h0 _ T21.heap _
      exact ⟨rfl, N21, trivial⟩
    ·
      rw [q]
      rw [show ((1 : Int32) + 1) = 2 from rfl]
      refine own_go (s₁.setTop (mkF m 30 #[.val (.int p0), .val (.int p1), .val (.int p2), .val (.int p3), .val (.int p4), .val (.int (p0 &&& (7 : Int32))), .unset, .val (.int (2 : Int32)), .unset] [(.int (2 : Int32))])) (fun t_ k_ => XS.iload X0.here hx rfl (hb hby at_28) rfl k_) ?_
      obtain ⟨T22, h22, k22, X22, e22, E22, A22, st22⟩ := newP X0 hx hZ (hw _ (List.mem_of_getElem? (i := 0) rfl)) e0 (g := (mkF m 30 #[.val (.int p0), .val (.int p1), .val (.int p2), .val (.int p3), .val (.int p4), .val (.int (p0 &&& (7 : Int32))), .unset, .val (.int (2 : Int32)), .unset] [(.int (2 : Int32))])) rfl (hb hby at_30) rfl (by decide) (cap := 2) (by decide) (by decide) (by decide) (by decide)
      obtain ⟨b22, g22⟩ : ∃ z, z = h0.size := ⟨_, rfl⟩
      rw [← g22] at A22 st22
      have ge_b22 : Z.heap.size ≤ b22 := Nat.le_trans O.1 (Nat.le_of_eq g22.symm)
      have sz_b22 : h0.size ≤ b22 := Nat.le_trans (Keep.refl h0 []).1 (Nat.le_of_eq g22.symm)
      have R22 := R0.trans (CHr.ext E22 R0.1)
      have Sf22 := Safe.ext (x := b22) E22 R0.1 (Safe.new (Nat.le_of_eq g22.symm))
      have K22 : Keep h0 h22 [] := (Keep.refl h0 []).ext E22
      have O22 := own_ext O E22
      have V22 : Arv Z h22 b22 k22 .char (2 : Int32) [(.int (0 : Int32)), (.int (0 : Int32))] (.int (0 : Int32)) := (Arv.new A22 (by decide)).pad (pad_rep [] (.int (0 : Int32)) 2)
      refine own_go (T22.setTop (mkF m 32 #[.val (.int p0), .val (.int p1), .val (.int p2), .val (.int p3), .val (.int p4), .val (.int (p0 &&& (7 : Int32))), .unset, .val (.int (2 : Int32)), .unset] [(.ref b22)])) (fun t_ k_ => st22 _ k_) ?_
      refine own_go (T22.setTop (mkF m 34 #[.val (.int p0), .val (.int p1), .val (.int p2), .val (.int p3), .val (.int p4), .val (.int (p0 &&& (7 : Int32))), .unset, .val (.int (2 : Int32)), .val (.ref b22)] [])) (fun t_ k_ => XS.astore X22.here hx rfl (hb hby at_32) rfl rfl (l' := #[.val (.int p0), .val (.int p1), .val (.int p2), .val (.int p3), .val (.int p4), .val (.int (p0 &&& (7 : Int32))), .unset, .val (.int (2 : Int32)), .val (.ref b22)]) rfl k_) ?_
      refine own_go (T22.setTop (mkF m 36 #[.val (.int p0), .val (.int p1), .val (.int p2), .val (.int p3), .val (.int p4), .val (.int (p0 &&& (7 : Int32))), .unset, .val (.int (2 : Int32)), .val (.ref b22)] [(.ref b22)])) (fun t_ k_ => XS.aload X22.here hx rfl (hb hby at_34) rfl rfl k_) ?_
      refine own_go (T22.setTop (mkF m 37 #[.val (.int p0), .val (.int p1), .val (.int p2), .val (.int p3), .val (.int p4), .val (.int (p0 &&& (7 : Int32))), .unset, .val (.int (2 : Int32)), .val (.ref b22)] [(.int (0 : Int32)), (.ref b22)])) (fun t_ k_ => XS.iconst X22.here hx rfl (hb hby at_36) k_) ?_
      refine own_go (T22.setTop (mkF m 38 #[.val (.int p0), .val (.int p1), .val (.int p2), .val (.int p3), .val (.int p4), .val (.int (p0 &&& (7 : Int32))), .unset, .val (.int (2 : Int32)), .val (.ref b22)] [(.int p1), (.int (0 : Int32)), (.ref b22)])) (fun t_ k_ => XS.iloadN X22.here hx rfl (hb hby at_37) rfl k_) ?_
      obtain ⟨_, _, ⟨T23, Lu23, ku23, nu23⟩, -, X23, ⟨Lc23, hQ23, lu23, yu23, zu23⟩, st23⟩ := Jvm.LawKit.callS X22 hx (y := (⟨"com/example/salp/salp/model/EdgeTypeOfPinLaw", "ch", "(I)C"⟩ : MethodName)) hown (mvT hZ (hw _ (List.mem_of_getElem? (i := 1) rfl))) (mvT hZ (hw _ (List.mem_of_getElem? (i := 2) rfl))) (mvT hZ (hw _ (List.mem_of_getElem? (i := 3) rfl))) (mvT hZ (hw _ (List.mem_of_getElem? (i := 4) rfl))) (by decide) (backOf (W := 2) (rm_ch l Z a0 hw [] (p1) h22 O22 ) hZ (hw _ (List.mem_of_getElem? (i := 4) rfl)) (hw _ (List.mem_of_getElem? (i := 3) rfl)) (by decide) (by decide)) (g := (mkF m 38 #[.val (.int p0), .val (.int p1), .val (.int p2), .val (.int p3), .val (.int p4), .val (.int (p0 &&& (7 : Int32))), .unset, .val (.int (2 : Int32)), .val (.ref b22)] [(.int p1), (.int (0 : Int32)), (.ref b22)])) rfl (by rw [hml]; rfl) (argsL := [(.int p1)]) (rest := [(.int (0 : Int32)), (.ref b22)]) (lenOf own_pd4 rfl) rfl (by show 2 * 0 + _ ≤ _; exact Nat.le_of_eq rfl) (hb hby at_38) (fun _ _ => ⟨rfl, e22, (by decide : 1 + 0 ≤ _), (by decide : 2 + 0 ≤ _)⟩)
      dsimp only [Pt.U, Pt.locs, Pt.cells, Pt.slots] at X23 lu23 yu23 zu23 st23 hQ23
      subst lu23 yu23 zu23
      obtain ⟨c23, rfl, N23q, hc23, e23⟩ := hQ23
      have N23 := Fr.app N0 N23q
      refine own_go (T23.setTop (mkF m 41 #[.val (.int p0), .val (.int p1), .val (.int p2), .val (.int p3), .val (.int p4), .val (.int (p0 &&& (7 : Int32))), .unset, .val (.int (2 : Int32)), .val (.ref b22)] [(.int c23), (.int (0 : Int32)), (.ref b22)])) (fun t_ k_ => st23 _ k_) ?_
      obtain ⟨cl24, Ar24, q24, Sz24, Nz24, Hz24, Gz24⟩ := V22
      have hin24 : ¬ ((0 : Int32) < 0 ∨ cl24.slots.size ≤ ((0 : Int32)).toNatClampNeg) := inb_of Sz24 ⟨by decide, by decide⟩
      obtain ⟨T24, h24, X24, e24, W24, st24⟩ := stC X23 hx hZ e23 Ar24 (j := (0 : Int32)) hin24  (g := (mkF m 41 #[.val (.int p0), .val (.int p1), .val (.int p2), .val (.int p3), .val (.int p4), .val (.int (p0 &&& (7 : Int32))), .unset, .val (.int (2 : Int32)), .val (.ref b22)] [(.int c23), (.int (0 : Int32)), (.ref b22)])) rfl rfl (hb hby at_41)
      have R24 := R22.trans (CHr.wr W24 Sf22 R22.1)
      have V24 : Arv Z h24 b22 k22 .char (2 : Int32) [(.int (nar .char c23)), (.int (0 : Int32))] (.int (0 : Int32)) := Arv.set Ar24 q24 Sz24 Nz24 Hz24 Gz24 (fits_nar_char _) W24 0 rfl (Nat.le_of_ble_eq_true rfl)
      have K24 : Keep h0 h24 [] := K22.wr W24 (Or.inr sz_b22)
      have N24 := Fr.snoc X24 N23 ge_b22
      have O24 := own_extW O22 W24 ge_b22
      refine own_go (T24.setTop (mkF m 42 #[.val (.int p0), .val (.int p1), .val (.int p2), .val (.int p3), .val (.int p4), .val (.int (p0 &&& (7 : Int32))), .unset, .val (.int (2 : Int32)), .val (.ref b22)] [])) (fun t_ k_ => st24 _ k_) ?_
      refine own_go (T24.setTop (mkF m 44 #[.val (.int p0), .val (.int p1), .val (.int p2), .val (.int p3), .val (.int p4), .val (.int (p0 &&& (7 : Int32))), .unset, .val (.int (2 : Int32)), .val (.ref b22)] [(.int (2 : Int32))])) (fun t_ k_ => XS.iload X24.here hx rfl (hb hby at_42) rfl k_) ?_
      refine own_go (T24.setTop (mkF m 45 #[.val (.int p0), .val (.int p1), .val (.int p2), .val (.int p3), .val (.int p4), .val (.int (p0 &&& (7 : Int32))), .unset, .val (.int (2 : Int32)), .val (.ref b22)] [(.int (1 : Int32)), (.int (2 : Int32))])) (fun t_ k_ => XS.iconst X24.here hx rfl (hb hby at_44) k_) ?_
      refine own_go (T24.setTop (mkF m 48 #[.val (.int p0), .val (.int p1), .val (.int p2), .val (.int p3), .val (.int p4), .val (.int (p0 &&& (7 : Int32))), .unset, .val (.int (2 : Int32)), .val (.ref b22)] [])) (fun t_ k_ => XS.icmpNo X24.here hx rfl (hb hby at_45) rfl (tlt (by decide : (1 : Int32) < (2 : Int32))).2.2.2 k_) ?_
      refine own_go (T24.setTop (mkF m 50 #[.val (.int p0), .val (.int p1), .val (.int p2), .val (.int p3), .val (.int p4), .val (.int (p0 &&& (7 : Int32))), .unset, .val (.int (2 : Int32)), .val (.ref b22)] [(.ref b22)])) (fun t_ k_ => XS.aload X24.here hx rfl (hb hby at_48) rfl rfl k_) ?_
      refine own_go (T24.setTop (mkF m 51 #[.val (.int p0), .val (.int p1), .val (.int p2), .val (.int p3), .val (.int p4), .val (.int (p0 &&& (7 : Int32))), .unset, .val (.int (2 : Int32)), .val (.ref b22)] [(.int (1 : Int32)), (.ref b22)])) (fun t_ k_ => XS.iconst X24.here hx rfl (hb hby at_50) k_) ?_
      refine own_go (T24.setTop (mkF m 52 #[.val (.int p0), .val (.int p1), .val (.int p2), .val (.int p3), .val (.int p4), .val (.int (p0 &&& (7 : Int32))), .unset, .val (.int (2 : Int32)), .val (.ref b22)] [(.int p2), (.int (1 : Int32)), (.ref b22)])) (fun t_ k_ => XS.iloadN X24.here hx rfl (hb hby at_51) rfl k_) ?_
      obtain ⟨_, _, ⟨T25, Lu25, ku25, nu25⟩, -, X25, ⟨Lc25, hQ25, lu25, yu25, zu25⟩, st25⟩ := Jvm.LawKit.callS X24 hx (y := (⟨"com/example/salp/salp/model/EdgeTypeOfPinLaw", "ch", "(I)C"⟩ : MethodName)) hown (mvT hZ (hw _ (List.mem_of_getElem? (i := 1) rfl))) (mvT hZ (hw _ (List.mem_of_getElem? (i := 2) rfl))) (mvT hZ (hw _ (List.mem_of_getElem? (i := 3) rfl))) (mvT hZ (hw _ (List.mem_of_getElem? (i := 4) rfl))) (by decide) (backOf (W := 2) (rm_ch l Z a0 hw [] (p2) h24 O24 ) hZ (hw _ (List.mem_of_getElem? (i := 4) rfl)) (hw _ (List.mem_of_getElem? (i := 3) rfl)) (by decide) (by decide)) (g := (mkF m 52 #[.val (.int p0), .val (.int p1), .val (.int p2), .val (.int p3), .val (.int p4), .val (.int (p0 &&& (7 : Int32))), .unset, .val (.int (2 : Int32)), .val (.ref b22)] [(.int p2), (.int (1 : Int32)), (.ref b22)])) rfl (by rw [hml]; rfl) (argsL := [(.int p2)]) (rest := [(.int (1 : Int32)), (.ref b22)]) (lenOf own_pd4 rfl) rfl (by show 2 * 0 + _ ≤ _; exact Nat.le_of_eq rfl) (hb hby at_52) (fun _ _ => ⟨rfl, e24, (by decide : 1 + 0 ≤ _), (by decide : 2 + 0 ≤ _)⟩)
      dsimp only [Pt.U, Pt.locs, Pt.cells, Pt.slots] at X25 lu25 yu25 zu25 st25 hQ25
      subst lu25 yu25 zu25
      obtain ⟨c25, rfl, N25q, hc25, e25⟩ := hQ25
      have N25 := Fr.app N24 N25q
      refine own_go (T25.setTop (mkF m 55 #[.val (.int p0), .val (.int p1), .val (.int p2), .val (.int p3), .val (.int p4), .val (.int (p0 &&& (7 : Int32))), .unset, .val (.int (2 : Int32)), .val (.ref b22)] [(.int c25), (.int (1 : Int32)), (.ref b22)])) (fun t_ k_ => st25 _ k_) ?_
      obtain ⟨cl26, Ar26, q26, Sz26, Nz26, Hz26, Gz26⟩ := V24
      have hin26 : ¬ ((1 : Int32) < 0 ∨ cl26.slots.size ≤ ((1 : Int32)).toNatClampNeg) := inb_of Sz26 ⟨by decide, by decide⟩
      obtain ⟨T26, h26, X26, e26, W26, st26⟩ := stC X25 hx hZ e25 Ar26 (j := (1 : Int32)) hin26  (g := (mkF m 55 #[.val (.int p0), .val (.int p1), .val (.int p2), .val (.int p3), .val (.int p4), .val (.int (p0 &&& (7 : Int32))), .unset, .val (.int (2 : Int32)), .val (.ref b22)] [(.int c25), (.int (1 : Int32)), (.ref b22)])) rfl rfl (hb hby at_55)
      have Fz27 := (Safe.wr W24 Sf22 R22.1 Sf22)
      have R26 := R24.trans (CHr.wr W26 Fz27 R24.1)
      have V26 : Arv Z h26 b22 k22 .char (2 : Int32) [(.int (nar .char c23)), (.int (nar .char c25))] (.int (0 : Int32)) := Arv.set Ar26 q26 Sz26 Nz26 Hz26 Gz26 (fits_nar_char _) W26 1 rfl (Nat.le_of_ble_eq_true rfl)
      have K26 : Keep h0 h26 [] := K24.wr W26 (Or.inr sz_b22)
      have N26 := Fr.snoc X26 N25 ge_b22
      have O26 := own_extW O24 W26 ge_b22
      refine own_go (T26.setTop (mkF m 56 #[.val (.int p0), .val (.int p1), .val (.int p2), .val (.int p3), .val (.int p4), .val (.int (p0 &&& (7 : Int32))), .unset, .val (.int (2 : Int32)), .val (.ref b22)] [])) (fun t_ k_ => st26 _ k_) ?_
      refine own_go (T26.setTop (mkF m 58 #[.val (.int p0), .val (.int p1), .val (.int p2), .val (.int p3), .val (.int p4), .val (.int (p0 &&& (7 : Int32))), .unset, .val (.int (2 : Int32)), .val (.ref b22)] [(.int (2 : Int32))])) (fun t_ k_ => XS.iload X26.here hx rfl (hb hby at_56) rfl k_) ?_
      refine own_go (T26.setTop (mkF m 59 #[.val (.int p0), .val (.int p1), .val (.int p2), .val (.int p3), .val (.int p4), .val (.int (p0 &&& (7 : Int32))), .unset, .val (.int (2 : Int32)), .val (.ref b22)] [(.int (2 : Int32)), (.int (2 : Int32))])) (fun t_ k_ => XS.iconst X26.here hx rfl (hb hby at_58) k_) ?_
      refine own_go (T26.setTop (mkF m 70 #[.val (.int p0), .val (.int p1), .val (.int p2), .val (.int p3), .val (.int p4), .val (.int (p0 &&& (7 : Int32))), .unset, .val (.int (2 : Int32)), .val (.ref b22)] [])) (fun t_ k_ => XS.icmpYes X26.here hx rfl (pc0 := 59) (pc' := 70) rfl (hb hby at_59) rfl (flt (by decide : ¬ ((2 : Int32) < (2 : Int32)))).2.2.2 (by decide) (by decide) k_) ?_
      refine own_go (T26.setTop (mkF m 72 #[.val (.int p0), .val (.int p1), .val (.int p2), .val (.int p3), .val (.int p4), .val (.int (p0 &&& (7 : Int32))), .unset, .val (.int (2 : Int32)), .val (.ref b22)] [(.int (2 : Int32))])) (fun t_ k_ => XS.iload X26.here hx rfl (hb hby at_70) rfl k_) ?_
      refine own_go (T26.setTop (mkF m 73 #[.val (.int p0), .val (.int p1), .val (.int p2), .val (.int p3), .val (.int p4), .val (.int (p0 &&& (7 : Int32))), .unset, .val (.int (2 : Int32)), .val (.ref b22)] [(.int (3 : Int32)), (.int (2 : Int32))])) (fun t_ k_ => XS.iconst X26.here hx rfl (hb hby at_72) k_) ?_
      refine own_go (T26.setTop (mkF m 85 #[.val (.int p0), .val (.int p1), .val (.int p2), .val (.int p3), .val (.int p4), .val (.int (p0 &&& (7 : Int32))), .unset, .val (.int (2 : Int32)), .val (.ref b22)] [])) (fun t_ k_ => XS.icmpYes X26.here hx rfl (pc0 := 73) (pc' := 85) rfl (hb hby at_73) rfl (flt (by decide : ¬ ((3 : Int32) < (2 : Int32)))).2.2.2 (by decide) (by decide) k_) ?_
      obtain ⟨T28, h28, X28, e28, E28, A28, D28, U28, st28⟩ := newO X26 hx hZ hown (hw _ (List.mem_of_getElem? (i := 6) rfl)) (hw _ (List.mem_of_getElem? (i := 7) rfl)) (hw _ (List.mem_of_getElem? (i := 8) rfl)) e26 (g := (mkF m 85 #[.val (.int p0), .val (.int p1), .val (.int p2), .val (.int p3), .val (.int p4), .val (.int (p0 &&& (7 : Int32))), .unset, .val (.int (2 : Int32)), .val (.ref b22)] [])) rfl (hb hby at_85) (by decide) (by decide)
      obtain ⟨b28, g28⟩ : ∃ z, z = h26.size := ⟨_, rfl⟩
      rw [← g28] at A28 D28 U28 st28
      have ge_b28 : Z.heap.size ≤ b28 := Nat.le_trans O26.1 (Nat.le_of_eq g28.symm)
      have sz_b28 : h0.size ≤ b28 := Nat.le_trans K26.1 (Nat.le_of_eq g28.symm)
      have R28 := R26.trans (CHr.ext E28 R26.1)
      have Sf28 := Safe.ext (x := b28) E28 R26.1 (Safe.new (Nat.le_of_eq g28.symm))
      have K28 : Keep h0 h28 [] := K26.ext E28
      have O28 := own_ext O26 E28
      have Fcoder_28 : Fld Z h28 b28 "java/lang/String" "coder" "B" (.int (0 : Int32)) := D28 (Or.inr (hw _ (List.mem_of_getElem? (i := 32) rfl))) (ty := .byte) (by decide)
      have Fvalue_28 : Fld Z h28 b28 "java/lang/String" "value" "[B" .null := D28 (Or.inr (hw _ (List.mem_of_getElem? (i := 34) rfl))) (ty := (.array .byte)) (by decide)
      refine own_go (T28.setTop (mkF m 88 #[.val (.int p0), .val (.int p1), .val (.int p2), .val (.int p3), .val (.int p4), .val (.int (p0 &&& (7 : Int32))), .unset, .val (.int (2 : Int32)), .val (.ref b22)] [(.ref b28)])) (fun t_ k_ => st28 _ k_) ?_
      refine own_go (T28.setTop (mkF m 89 #[.val (.int p0), .val (.int p1), .val (.int p2), .val (.int p3), .val (.int p4), .val (.int (p0 &&& (7 : Int32))), .unset, .val (.int (2 : Int32)), .val (.ref b22)] [(.ref b28), (.ref b28)])) (fun t_ k_ => XS.dup X28.here hx rfl (hb hby at_88) rfl rfl k_) ?_
      refine own_go (T28.setTop (mkF m 91 #[.val (.int p0), .val (.int p1), .val (.int p2), .val (.int p3), .val (.int p4), .val (.int (p0 &&& (7 : Int32))), .unset, .val (.int (2 : Int32)), .val (.ref b22)] [(.ref b22), (.ref b28), (.ref b28)])) (fun t_ k_ => XS.aload X28.here hx rfl (hb hby at_89) rfl rfl k_) ?_
      have hp29 : ∀ c ∈ ([(nar .char c23), (nar .char c25)] : List Int32), ¬ c < 0 ∧ ¬ (255 : Int32) < c := (own_allS (own_okb _ (own_narok _ hc23)) (own_allS (own_okb _ (own_narok _ hc25)) own_all0))
      have Fz30 := (V26.ext E28)
      obtain ⟨_, _, ⟨T31, Lu31, ku31, nu31⟩, -, X31, ⟨Lc31, hQ31, lu31, yu31, zu31⟩, st31⟩ := X28.specialBack hx (y := (⟨"java/lang/String", "<init>", "([C)V"⟩ : MethodName)) rfl hown (mvT hZ (hw _ (List.mem_of_getElem? (i := 9) rfl))) (mvT hZ (hw _ (List.mem_of_getElem? (i := 10) rfl))) (mvT hZ (hw _ (List.mem_of_getElem? (i := 11) rfl))) (by decide) (StrChars.Road.backV (W := 1) hZ (fun d hd => hw d (own_words d hd)) (kI := 4) (hw _ (List.mem_of_getElem? (i := 7) rfl)) (cs := ([(nar .char c23), (nar .char c25)] : List Int32)) (bs := (([(nar .char c23), (nar .char c25)] : List Int32)).map (fun c => c.toInt8.toInt32)) (n := 2) (n0 := Z.heap.size) ge_b28 (O28.1) A28 Fvalue_28 Fcoder_28 Fz30 (S_CS.ext O28) n_CS rfl rfl (by decide) (by decide) hp29 rfl (by decide) (by decide)) (g := (mkF m 91 #[.val (.int p0), .val (.int p1), .val (.int p2), .val (.int p3), .val (.int p4), .val (.int (p0 &&& (7 : Int32))), .unset, .val (.int (2 : Int32)), .val (.ref b22)] [(.ref b22), (.ref b28), (.ref b28)])) rfl (by rw [hml]; rfl) (Steps.refl _) (a := b28) (argsL := [(.ref b22)]) (rest := [(.ref b28)]) (lenOf own_pd8 rfl) rfl (by show 2 * 0 + _ ≤ _; exact Nat.le_of_eq rfl) (hb hby at_91) (fun _ _ => ⟨rfl, e28, (by decide : 2 + 1 ≤ _), (by decide : 6 + 2 ≤ _)⟩)
      dsimp only [Pt.U, Pt.locs, Pt.cells, Pt.slots] at X31 lu31 yu31 zu31 st31 hQ31
      subst lu31 yu31 zu31
      obtain ⟨rfl, N31q, K31q, X31q, C31q, t31, kb31, u1_31, u2_31, u3_31, V31q, A31q⟩ := hQ31
      have N31 := Fr.app N26 N31q
      have O31 := own_extK O28 K31q (allS ge_b28 all0)
      have KK31 : Keep h0 T31.heap [] := K28.trans K31q (allS (Or.inr sz_b28) all0)
      have R31 := R28.trans (CHr.keep K31q (allS Sf28 all0) R28.1)
      refine own_go (T31.setTop (mkF m 94 #[.val (.int p0), .val (.int p1), .val (.int p2), .val (.int p3), .val (.int p4), .val (.int (p0 &&& (7 : Int32))), .unset, .val (.int (2 : Int32)), .val (.ref b22)] [(.ref b28)])) (fun t_ k_ => st31.trans k_) ?_
      refine own_go (T31.setTop (mkF m 96 #[.val (.int p0), .val (.int p1), .val (.int p2), .val (.int p3), .val (.int p4), .val (.int (p0 &&& (7 : Int32))), .val (.ref b28), .val (.int (2 : Int32)), .val (.ref b22)] [])) (fun t_ k_ => XS.astore X31.here hx rfl (hb hby at_94) rfl rfl (l' := #[.val (.int p0), .val (.int p1), .val (.int p2), .val (.int p3), .val (.int p4), .val (.int (p0 &&& (7 : Int32))), .val (.ref b28), .val (.int (2 : Int32)), .val (.ref b22)]) rfl k_) ?_
      refine own_go (T31.setTop (mkF m 98 #[.val (.int p0), .val (.int p1), .val (.int p2), .val (.int p3), .val (.int p4), .val (.int (p0 &&& (7 : Int32))), .val (.ref b28), .val (.int (2 : Int32)), .val (.ref b22)] [(.ref b28)])) (fun t_ k_ => XS.aload X31.here hx rfl (hb hby at_96) rfl rfl k_) ?_
      obtain ⟨_, _, ⟨T32, Lu32, ku32, nu32⟩, -, X32, hS32, hg32, ⟨Lc32, hQ32, lu32, yu32, zu32⟩, st32⟩ := callSS X31 hx (y := (⟨"com/example/salp/salp/model/EdgeType", "of", "(Ljava/lang/String;)Lcom/example/salp/salp/model/EdgeType;"⟩ : MethodName)) hown (mvT hZ (hw _ (List.mem_of_getElem? (i := 35) rfl))) (mvT hZ (hw _ (List.mem_of_getElem? (i := 36) rfl))) (mvT hZ (hw _ (List.mem_of_getElem? (i := 37) rfl))) (mvT hZ (hw _ (List.mem_of_getElem? (i := 38) rfl))) (by decide) (backOfS (W := 0) (rm_of l Z a0 hw [] (b28) (t31) (kb31) (([(nar .char c23), (nar .char c25)] : List Int32)) (cs0) (sf0) T31.heap O31 w X31q V31q C31q A31q (own_okAS (own_narok _ hc23) (own_okAS (own_narok _ hc25) own_okA0)) (Nat.le_of_ble_eq_true rfl) (Nat.le_of_ble_eq_true rfl)) hZ (hw _ (List.mem_of_getElem? (i := 38) rfl)) (hw _ (List.mem_of_getElem? (i := 37) rfl)) (by decide) (by decide)) (g := (mkF m 98 #[.val (.int p0), .val (.int p1), .val (.int p2), .val (.int p3), .val (.int p4), .val (.int (p0 &&& (7 : Int32))), .val (.ref b28), .val (.int (2 : Int32)), .val (.ref b22)] [(.ref b28)])) rfl (by rw [hml]; rfl) (argsL := [(.ref b28)]) (rest := []) (lenOf own_pd5 rfl) rfl (by show 2 * 0 + _ ≤ _; exact Nat.le_of_eq rfl) (hb hby at_98) (fun _ _ => ⟨rfl, rfl, (by decide : 3 + 3 ≤ _), (by decide : 8 + 21 ≤ _)⟩)
      dsimp only [Pt.U, Pt.locs, Pt.cells, Pt.slots] at X32 lu32 yu32 zu32 st32 hQ32 hS32 hg32
      subst lu32 yu32 zu32
      obtain ⟨X32, hS, hZ, hown⟩ := rebS hS (by rw [show T31.heap = T31.heap from rfl]; exact (Nat.le_trans (Nat.le_trans (Nat.le_trans (Nat.le_trans (Nat.le_trans hk E22.1) (Keep.of_wr W24).1) (Keep.of_wr W26).1) E28.1) K31q.1)) X32 hS32 hg32 hZ hown
      obtain ⟨r32, rfl, N32q, K32q, X32q, F32q⟩ := hQ32
      have N32 := Fr.app N31 N32q
      have O32 := own_extK O31 K32q all0
      have KK32 : Keep h0 T32.heap [] := KK31.trans K32q all0
      refine own_go (T32.setTop (mkF m 101 #[.val (.int p0), .val (.int p1), .val (.int p2), .val (.int p3), .val (.int p4), .val (.int (p0 &&& (7 : Int32))), .val (.ref b28), .val (.int (2 : Int32)), .val (.ref b22)] [(.ref r32)])) (fun t_ k_ => st32.trans k_) ?_
      refine own_go (T32.setTop (mkF m 103 #[.val (.int p0), .val (.int p1), .val (.int p2), .val (.int p3), .val (.int p4), .val (.int (p0 &&& (7 : Int32))), .val (.ref b28), .val (.ref r32), .val (.ref b22)] [])) (fun t_ k_ => XS.astore X32.here hx rfl (hb hby at_101) rfl rfl (l' := #[.val (.int p0), .val (.int p1), .val (.int p2), .val (.int p3), .val (.int p4), .val (.int (p0 &&& (7 : Int32))), .val (.ref b28), .val (.ref r32), .val (.ref b22)]) rfl k_) ?_
      refine own_go (T32.setTop (mkF m 105 #[.val (.int p0), .val (.int p1), .val (.int p2), .val (.int p3), .val (.int p4), .val (.int (p0 &&& (7 : Int32))), .val (.ref b28), .val (.ref r32), .val (.ref b22)] [(.ref r32)])) (fun t_ k_ => XS.aload X32.here hx rfl (hb hby at_103) rfl rfl k_) ?_
      obtain ⟨cq33, kq33, q33a, q33b, q33c⟩ := isOf hZ rfl X32q
      obtain ⟨_, _, ⟨T33, Lu33, ku33, nu33⟩, -, X33, ⟨Lc33, hQ33, lu33, yu33, zu33⟩, st33⟩ := X32.virtualBack hx (y := (⟨"com/example/salp/salp/model/EdgeType", "name", "()Ljava/lang/String;"⟩ : MethodName)) (z := (⟨"com/example/salp/salp/model/EdgeType", "name", "()Ljava/lang/String;"⟩ : MethodName)) hown (mvT hZ (hw _ (List.mem_of_getElem? (i := 91) rfl))) (mvT hZ (hw _ (List.mem_of_getElem? (i := 92) rfl))) (notFace_of_selects (args := #[]) (mvT hZ (hw _ (List.mem_of_getElem? (i := 94) rfl)))) (mvT hZ (hw _ (List.mem_of_getElem? (i := 94) rfl))) (mvT hZ (hw _ (List.mem_of_getElem? (i := 93) rfl))) (by decide) (backOf (W := 0) (rm_gn l Z a0 hw [] (r32) (b28) T32.heap O32 F32q) hZ (hw _ (List.mem_of_getElem? (i := 95) rfl)) (hw _ (List.mem_of_getElem? (i := 37) rfl)) (by decide) (by decide)) q33a q33c (g := (mkF m 105 #[.val (.int p0), .val (.int p1), .val (.int p2), .val (.int p3), .val (.int p4), .val (.int (p0 &&& (7 : Int32))), .val (.ref b28), .val (.ref r32), .val (.ref b22)] [(.ref r32)])) rfl (by rw [hml]; rfl) (Steps.refl _) (argsL := []) (rest := []) (lenOf own_pd6 rfl) rfl (by show 2 * 0 + _ ≤ _; exact Nat.le_of_eq rfl) (hb hby at_105) (fun _ _ => ⟨rfl, rfl, (by decide : 6 + 0 ≤ _), (by decide : 29 + 0 ≤ _)⟩)
      dsimp only [Pt.U, Pt.locs, Pt.cells, Pt.slots] at X33 lu33 yu33 zu33 st33 hQ33
      subst lu33 yu33 zu33
      obtain ⟨rfl, N33q, e33⟩ := hQ33
      have N33 := Fr.app N32 N33q
      refine own_go (T33.setTop (mkF m 108 #[.val (.int p0), .val (.int p1), .val (.int p2), .val (.int p3), .val (.int p4), .val (.int (p0 &&& (7 : Int32))), .val (.ref b28), .val (.ref r32), .val (.ref b22)] [(.ref b28)])) (fun t_ k_ => st33.trans k_) ?_
      refine own_go (T33.setTop (mkF m 110 #[.val (.int p0), .val (.int p1), .val (.int p2), .val (.int p3), .val (.int p4), .val (.int (p0 &&& (7 : Int32))), .val (.ref b28), .val (.ref r32), .val (.ref b22)] [(.ref b28), (.ref b28)])) (fun t_ k_ => XS.aload X33.here hx rfl (hb hby at_108) rfl rfl k_) ?_
      have Fz35 := (X31q.keep K32q)
      obtain ⟨cq34, kq34, q34a, q34b, q34c⟩ := isOf hZ e33 Fz35
      obtain ⟨_, _, ⟨T34, Lu34, ku34, nu34⟩, -, X34, ⟨Lc34, hQ34, lu34, yu34, zu34⟩, st34⟩ := X33.virtualBack hx (y := (⟨"java/lang/String", "equals", "(Ljava/lang/Object;)Z"⟩ : MethodName)) (z := (⟨"java/lang/String", "equals", "(Ljava/lang/Object;)Z"⟩ : MethodName)) hown (mvT hZ (hw _ (List.mem_of_getElem? (i := 96) rfl))) (mvT hZ (hw _ (List.mem_of_getElem? (i := 97) rfl))) (notFace_of_selects (args := #[]) (mvT hZ (hw _ (List.mem_of_getElem? (i := 99) rfl)))) (mvT hZ (hw _ (List.mem_of_getElem? (i := 99) rfl))) (mvT hZ (hw _ (List.mem_of_getElem? (i := 98) rfl))) (by decide) (backOf (W := 0) (rm_eqs l Z a0 hw [] (b28) T32.heap O32 ) hZ (hw _ (List.mem_of_getElem? (i := 100) rfl)) (hw _ (List.mem_of_getElem? (i := 8) rfl)) (by decide) (by decide)) q34a q34c (g := (mkF m 110 #[.val (.int p0), .val (.int p1), .val (.int p2), .val (.int p3), .val (.int p4), .val (.int (p0 &&& (7 : Int32))), .val (.ref b28), .val (.ref r32), .val (.ref b22)] [(.ref b28), (.ref b28)])) rfl (by rw [hml]; rfl) (Steps.refl _) (argsL := [(.ref b28)]) (rest := []) (lenOf own_pd7 rfl) rfl (by show 2 * 0 + _ ≤ _; exact Nat.le_of_eq rfl) (hb hby at_110) (fun _ _ => ⟨rfl, e33, (by decide : 6 + 0 ≤ _), (by decide : 29 + 0 ≤ _)⟩)
      dsimp only [Pt.U, Pt.locs, Pt.cells, Pt.slots] at X34 lu34 yu34 zu34 st34 hQ34
      subst lu34 yu34 zu34
      obtain ⟨rfl, N34q, e34⟩ := hQ34
      have N34 := Fr.app N33 N34q
      refine own_go (T34.setTop (mkF m 113 #[.val (.int p0), .val (.int p1), .val (.int p2), .val (.int p3), .val (.int p4), .val (.int (p0 &&& (7 : Int32))), .val (.ref b28), .val (.ref r32), .val (.ref b22)] [(.int (1 : Int32))])) (fun t_ k_ => st34.trans k_) ?_
      refine own_go (T34.setTop (mkF m 116 #[.val (.int p0), .val (.int p1), .val (.int p2), .val (.int p3), .val (.int p4), .val (.int (p0 &&& (7 : Int32))), .val (.ref b28), .val (.ref r32), .val (.ref b22)] [])) (fun t_ k_ => XS.ifNo X34.here hx rfl (hb hby at_113) rfl ((if0 _ _).trans (feq (by decide : ¬ ((1 : Int32) = (0 : Int32)))).1) k_) ?_
      refine own_go (T34.setTop (mkF m 118 #[.val (.int p0), .val (.int p1), .val (.int p2), .val (.int p3), .val (.int p4), .val (.int (p0 &&& (7 : Int32))), .val (.ref b28), .val (.ref r32), .val (.ref b22)] [(.ref r32)])) (fun t_ k_ => XS.aload X34.here hx rfl (hb hby at_116) rfl rfl k_) ?_
      obtain ⟨cq36, kq36, q36a, q36b, q36c⟩ := isOf hZ e34 X32q
      obtain ⟨_, _, ⟨T36, Lu36, ku36, nu36⟩, -, X36, ⟨Lc36, hQ36, lu36, yu36, zu36⟩, st36⟩ := X34.virtualBack hx (y := (⟨"com/example/salp/salp/model/EdgeType", "toString", "()Ljava/lang/String;"⟩ : MethodName)) (z := (⟨"com/example/salp/salp/model/EdgeType", "toString", "()Ljava/lang/String;"⟩ : MethodName)) hown (mvT hZ (hw _ (List.mem_of_getElem? (i := 101) rfl))) (mvT hZ (hw _ (List.mem_of_getElem? (i := 102) rfl))) (notFace_of_selects (args := #[]) (mvT hZ (hw _ (List.mem_of_getElem? (i := 104) rfl)))) (mvT hZ (hw _ (List.mem_of_getElem? (i := 104) rfl))) (mvT hZ (hw _ (List.mem_of_getElem? (i := 103) rfl))) (by decide) (backOf (W := 0) (rm_gt l Z a0 hw [] (r32) (b28) T32.heap O32 F32q) hZ (hw _ (List.mem_of_getElem? (i := 105) rfl)) (hw _ (List.mem_of_getElem? (i := 37) rfl)) (by decide) (by decide)) q36a q36c (g := (mkF m 118 #[.val (.int p0), .val (.int p1), .val (.int p2), .val (.int p3), .val (.int p4), .val (.int (p0 &&& (7 : Int32))), .val (.ref b28), .val (.ref r32), .val (.ref b22)] [(.ref r32)])) rfl (by rw [hml]; rfl) (Steps.refl _) (argsL := []) (rest := []) (lenOf own_pd6 rfl) rfl (by show 2 * 0 + _ ≤ _; exact Nat.le_of_eq rfl) (hb hby at_118) (fun _ _ => ⟨rfl, e34, (by decide : 6 + 0 ≤ _), (by decide : 29 + 0 ≤ _)⟩)
      dsimp only [Pt.U, Pt.locs, Pt.cells, Pt.slots] at X36 lu36 yu36 zu36 st36 hQ36
      subst lu36 yu36 zu36
      obtain ⟨rfl, N36q, e36⟩ := hQ36
      have N36 := Fr.app N34 N36q
      refine own_go (T36.setTop (mkF m 121 #[.val (.int p0), .val (.int p1), .val (.int p2), .val (.int p3), .val (.int p4), .val (.int (p0 &&& (7 : Int32))), .val (.ref b28), .val (.ref r32), .val (.ref b22)] [(.ref b28)])) (fun t_ k_ => st36.trans k_) ?_
      refine own_go (T36.setTop (mkF m 123 #[.val (.int p0), .val (.int p1), .val (.int p2), .val (.int p3), .val (.int p4), .val (.int (p0 &&& (7 : Int32))), .val (.ref b28), .val (.ref r32), .val (.ref b22)] [(.ref b28), (.ref b28)])) (fun t_ k_ => XS.aload X36.here hx rfl (hb hby at_121) rfl rfl k_) ?_
      obtain ⟨cq37, kq37, q37a, q37b, q37c⟩ := isOf hZ e36 Fz35
      obtain ⟨_, _, ⟨T37, Lu37, ku37, nu37⟩, -, X37, ⟨Lc37, hQ37, lu37, yu37, zu37⟩, st37⟩ := X36.virtualBack hx (y := (⟨"java/lang/String", "equals", "(Ljava/lang/Object;)Z"⟩ : MethodName)) (z := (⟨"java/lang/String", "equals", "(Ljava/lang/Object;)Z"⟩ : MethodName)) hown (mvT hZ (hw _ (List.mem_of_getElem? (i := 96) rfl))) (mvT hZ (hw _ (List.mem_of_getElem? (i := 97) rfl))) (notFace_of_selects (args := #[]) (mvT hZ (hw _ (List.mem_of_getElem? (i := 99) rfl)))) (mvT hZ (hw _ (List.mem_of_getElem? (i := 99) rfl))) (mvT hZ (hw _ (List.mem_of_getElem? (i := 98) rfl))) (by decide) (backOf (W := 0) (rm_eqs l Z a0 hw [] (b28) T32.heap O32 ) hZ (hw _ (List.mem_of_getElem? (i := 100) rfl)) (hw _ (List.mem_of_getElem? (i := 8) rfl)) (by decide) (by decide)) q37a q37c (g := (mkF m 123 #[.val (.int p0), .val (.int p1), .val (.int p2), .val (.int p3), .val (.int p4), .val (.int (p0 &&& (7 : Int32))), .val (.ref b28), .val (.ref r32), .val (.ref b22)] [(.ref b28), (.ref b28)])) rfl (by rw [hml]; rfl) (Steps.refl _) (argsL := [(.ref b28)]) (rest := []) (lenOf own_pd7 rfl) rfl (by show 2 * 0 + _ ≤ _; exact Nat.le_of_eq rfl) (hb hby at_123) (fun _ _ => ⟨rfl, e36, (by decide : 6 + 0 ≤ _), (by decide : 29 + 0 ≤ _)⟩)
      dsimp only [Pt.U, Pt.locs, Pt.cells, Pt.slots] at X37 lu37 yu37 zu37 st37 hQ37
      subst lu37 yu37 zu37
      obtain ⟨rfl, N37q, e37⟩ := hQ37
      have N37 := Fr.app N36 N37q
      refine own_go (T37.setTop (mkF m 126 #[.val (.int p0), .val (.int p1), .val (.int p2), .val (.int p3), .val (.int p4), .val (.int (p0 &&& (7 : Int32))), .val (.ref b28), .val (.ref r32), .val (.ref b22)] [(.int (1 : Int32))])) (fun t_ k_ => st37.trans k_) ?_
      refine own_go (T37.setTop (mkF m 129 #[.val (.int p0), .val (.int p1), .val (.int p2), .val (.int p3), .val (.int p4), .val (.int (p0 &&& (7 : Int32))), .val (.ref b28), .val (.ref r32), .val (.ref b22)] [])) (fun t_ k_ => XS.ifNo X37.here hx rfl (hb hby at_126) rfl ((if0 _ _).trans (feq (by decide : ¬ ((1 : Int32) = (0 : Int32)))).1) k_) ?_
      refine own_go (T37.setTop (mkF m 130 #[.val (.int p0), .val (.int p1), .val (.int p2), .val (.int p3), .val (.int p4), .val (.int (p0 &&& (7 : Int32))), .val (.ref b28), .val (.ref r32), .val (.ref b22)] [(.int (1 : Int32))])) (fun t_ k_ => XS.iconst X37.here hx rfl (hb hby at_129) k_) ?_
      refine own_go (T37.setTop (mkF m 134 #[.val (.int p0), .val (.int p1), .val (.int p2), .val (.int p3), .val (.int p4), .val (.int (p0 &&& (7 : Int32))), .val (.ref b28), .val (.ref r32), .val (.ref b22)] [(.int (1 : Int32))])) (fun t_ k_ => XS.goto X37.here hx rfl (pc0 := 130) (pc' := 134) rfl (hb hby at_130) (by decide) (by decide) k_) ?_
      obtain ⟨fs, hr, hrun, hended, hRW⟩ := X37.leaveW hS (by rw [show T37.heap = T32.heap from e37]; exact (Nat.le_refl _)) (v := some (.int (nar .boolean (1 : Int32)))) (fun h => by rw [Bd.returns] at h; cases h)
      refine ⟨_, _, retN X37 hx (t := .boolean) Bd.returns (by simp) (hb hby at_134) hr, hrun, hended, _, _, rfl, ?_, hRW.1, hRW.2.1, hRW.2.2.1, hRW.2.2.2.mono (by decide) (by decide)⟩
      show Q_law Z p0 p1 p2 p3 p4 cs0 sf0 h0 _ T37.heap _
      exact ⟨rfl, N37, trivial⟩
    ·
      rw [q]
      rw [show ((2 : Int32) + 1) = 3 from rfl]
      refine own_go (s₁.setTop (mkF m 30 #[.val (.int p0), .val (.int p1), .val (.int p2), .val (.int p3), .val (.int p4), .val (.int (p0 &&& (7 : Int32))), .unset, .val (.int (3 : Int32)), .unset] [(.int (3 : Int32))])) (fun t_ k_ => XS.iload X0.here hx rfl (hb hby at_28) rfl k_) ?_
      obtain ⟨T38, h38, k38, X38, e38, E38, A38, st38⟩ := newP X0 hx hZ (hw _ (List.mem_of_getElem? (i := 0) rfl)) e0 (g := (mkF m 30 #[.val (.int p0), .val (.int p1), .val (.int p2), .val (.int p3), .val (.int p4), .val (.int (p0 &&& (7 : Int32))), .unset, .val (.int (3 : Int32)), .unset] [(.int (3 : Int32))])) rfl (hb hby at_30) rfl (by decide) (cap := 3) (by decide) (by decide) (by decide) (by decide)
      obtain ⟨b38, g38⟩ : ∃ z, z = h0.size := ⟨_, rfl⟩
      rw [← g38] at A38 st38
      have ge_b38 : Z.heap.size ≤ b38 := Nat.le_trans O.1 (Nat.le_of_eq g38.symm)
      have sz_b38 : h0.size ≤ b38 := Nat.le_trans (Keep.refl h0 []).1 (Nat.le_of_eq g38.symm)
      have R38 := R0.trans (CHr.ext E38 R0.1)
      have Sf38 := Safe.ext (x := b38) E38 R0.1 (Safe.new (Nat.le_of_eq g38.symm))
      have K38 : Keep h0 h38 [] := (Keep.refl h0 []).ext E38
      have O38 := own_ext O E38
      have V38 : Arv Z h38 b38 k38 .char (3 : Int32) [(.int (0 : Int32)), (.int (0 : Int32)), (.int (0 : Int32))] (.int (0 : Int32)) := (Arv.new A38 (by decide)).pad (pad_rep [] (.int (0 : Int32)) 3)
      refine own_go (T38.setTop (mkF m 32 #[.val (.int p0), .val (.int p1), .val (.int p2), .val (.int p3), .val (.int p4), .val (.int (p0 &&& (7 : Int32))), .unset, .val (.int (3 : Int32)), .unset] [(.ref b38)])) (fun t_ k_ => st38 _ k_) ?_
      refine own_go (T38.setTop (mkF m 34 #[.val (.int p0), .val (.int p1), .val (.int p2), .val (.int p3), .val (.int p4), .val (.int (p0 &&& (7 : Int32))), .unset, .val (.int (3 : Int32)), .val (.ref b38)] [])) (fun t_ k_ => XS.astore X38.here hx rfl (hb hby at_32) rfl rfl (l' := #[.val (.int p0), .val (.int p1), .val (.int p2), .val (.int p3), .val (.int p4), .val (.int (p0 &&& (7 : Int32))), .unset, .val (.int (3 : Int32)), .val (.ref b38)]) rfl k_) ?_
      refine own_go (T38.setTop (mkF m 36 #[.val (.int p0), .val (.int p1), .val (.int p2), .val (.int p3), .val (.int p4), .val (.int (p0 &&& (7 : Int32))), .unset, .val (.int (3 : Int32)), .val (.ref b38)] [(.ref b38)])) (fun t_ k_ => XS.aload X38.here hx rfl (hb hby at_34) rfl rfl k_) ?_
      refine own_go (T38.setTop (mkF m 37 #[.val (.int p0), .val (.int p1), .val (.int p2), .val (.int p3), .val (.int p4), .val (.int (p0 &&& (7 : Int32))), .unset, .val (.int (3 : Int32)), .val (.ref b38)] [(.int (0 : Int32)), (.ref b38)])) (fun t_ k_ => XS.iconst X38.here hx rfl (hb hby at_36) k_) ?_
      refine own_go (T38.setTop (mkF m 38 #[.val (.int p0), .val (.int p1), .val (.int p2), .val (.int p3), .val (.int p4), .val (.int (p0 &&& (7 : Int32))), .unset, .val (.int (3 : Int32)), .val (.ref b38)] [(.int p1), (.int (0 : Int32)), (.ref b38)])) (fun t_ k_ => XS.iloadN X38.here hx rfl (hb hby at_37) rfl k_) ?_
      obtain ⟨_, _, ⟨T39, Lu39, ku39, nu39⟩, -, X39, ⟨Lc39, hQ39, lu39, yu39, zu39⟩, st39⟩ := Jvm.LawKit.callS X38 hx (y := (⟨"com/example/salp/salp/model/EdgeTypeOfPinLaw", "ch", "(I)C"⟩ : MethodName)) hown (mvT hZ (hw _ (List.mem_of_getElem? (i := 1) rfl))) (mvT hZ (hw _ (List.mem_of_getElem? (i := 2) rfl))) (mvT hZ (hw _ (List.mem_of_getElem? (i := 3) rfl))) (mvT hZ (hw _ (List.mem_of_getElem? (i := 4) rfl))) (by decide) (backOf (W := 2) (rm_ch l Z a0 hw [] (p1) h38 O38 ) hZ (hw _ (List.mem_of_getElem? (i := 4) rfl)) (hw _ (List.mem_of_getElem? (i := 3) rfl)) (by decide) (by decide)) (g := (mkF m 38 #[.val (.int p0), .val (.int p1), .val (.int p2), .val (.int p3), .val (.int p4), .val (.int (p0 &&& (7 : Int32))), .unset, .val (.int (3 : Int32)), .val (.ref b38)] [(.int p1), (.int (0 : Int32)), (.ref b38)])) rfl (by rw [hml]; rfl) (argsL := [(.int p1)]) (rest := [(.int (0 : Int32)), (.ref b38)]) (lenOf own_pd4 rfl) rfl (by show 2 * 0 + _ ≤ _; exact Nat.le_of_eq rfl) (hb hby at_38) (fun _ _ => ⟨rfl, e38, (by decide : 1 + 0 ≤ _), (by decide : 3 + 0 ≤ _)⟩)
      dsimp only [Pt.U, Pt.locs, Pt.cells, Pt.slots] at X39 lu39 yu39 zu39 st39 hQ39
      subst lu39 yu39 zu39
      obtain ⟨c39, rfl, N39q, hc39, e39⟩ := hQ39
      have N39 := Fr.app N0 N39q
      refine own_go (T39.setTop (mkF m 41 #[.val (.int p0), .val (.int p1), .val (.int p2), .val (.int p3), .val (.int p4), .val (.int (p0 &&& (7 : Int32))), .unset, .val (.int (3 : Int32)), .val (.ref b38)] [(.int c39), (.int (0 : Int32)), (.ref b38)])) (fun t_ k_ => st39 _ k_) ?_
      obtain ⟨cl40, Ar40, q40, Sz40, Nz40, Hz40, Gz40⟩ := V38
      have hin40 : ¬ ((0 : Int32) < 0 ∨ cl40.slots.size ≤ ((0 : Int32)).toNatClampNeg) := inb_of Sz40 ⟨by decide, by decide⟩
      obtain ⟨T40, h40, X40, e40, W40, st40⟩ := stC X39 hx hZ e39 Ar40 (j := (0 : Int32)) hin40  (g := (mkF m 41 #[.val (.int p0), .val (.int p1), .val (.int p2), .val (.int p3), .val (.int p4), .val (.int (p0 &&& (7 : Int32))), .unset, .val (.int (3 : Int32)), .val (.ref b38)] [(.int c39), (.int (0 : Int32)), (.ref b38)])) rfl rfl (hb hby at_41)
      have R40 := R38.trans (CHr.wr W40 Sf38 R38.1)
      have V40 : Arv Z h40 b38 k38 .char (3 : Int32) [(.int (nar .char c39)), (.int (0 : Int32)), (.int (0 : Int32))] (.int (0 : Int32)) := Arv.set Ar40 q40 Sz40 Nz40 Hz40 Gz40 (fits_nar_char _) W40 0 rfl (Nat.le_of_ble_eq_true rfl)
      have K40 : Keep h0 h40 [] := K38.wr W40 (Or.inr sz_b38)
      have N40 := Fr.snoc X40 N39 ge_b38
      have O40 := own_extW O38 W40 ge_b38
      refine own_go (T40.setTop (mkF m 42 #[.val (.int p0), .val (.int p1), .val (.int p2), .val (.int p3), .val (.int p4), .val (.int (p0 &&& (7 : Int32))), .unset, .val (.int (3 : Int32)), .val (.ref b38)] [])) (fun t_ k_ => st40 _ k_) ?_
      refine own_go (T40.setTop (mkF m 44 #[.val (.int p0), .val (.int p1), .val (.int p2), .val (.int p3), .val (.int p4), .val (.int (p0 &&& (7 : Int32))), .unset, .val (.int (3 : Int32)), .val (.ref b38)] [(.int (3 : Int32))])) (fun t_ k_ => XS.iload X40.here hx rfl (hb hby at_42) rfl k_) ?_
      refine own_go (T40.setTop (mkF m 45 #[.val (.int p0), .val (.int p1), .val (.int p2), .val (.int p3), .val (.int p4), .val (.int (p0 &&& (7 : Int32))), .unset, .val (.int (3 : Int32)), .val (.ref b38)] [(.int (1 : Int32)), (.int (3 : Int32))])) (fun t_ k_ => XS.iconst X40.here hx rfl (hb hby at_44) k_) ?_
      refine own_go (T40.setTop (mkF m 48 #[.val (.int p0), .val (.int p1), .val (.int p2), .val (.int p3), .val (.int p4), .val (.int (p0 &&& (7 : Int32))), .unset, .val (.int (3 : Int32)), .val (.ref b38)] [])) (fun t_ k_ => XS.icmpNo X40.here hx rfl (hb hby at_45) rfl (tlt (by decide : (1 : Int32) < (3 : Int32))).2.2.2 k_) ?_
      refine own_go (T40.setTop (mkF m 50 #[.val (.int p0), .val (.int p1), .val (.int p2), .val (.int p3), .val (.int p4), .val (.int (p0 &&& (7 : Int32))), .unset, .val (.int (3 : Int32)), .val (.ref b38)] [(.ref b38)])) (fun t_ k_ => XS.aload X40.here hx rfl (hb hby at_48) rfl rfl k_) ?_
      refine own_go (T40.setTop (mkF m 51 #[.val (.int p0), .val (.int p1), .val (.int p2), .val (.int p3), .val (.int p4), .val (.int (p0 &&& (7 : Int32))), .unset, .val (.int (3 : Int32)), .val (.ref b38)] [(.int (1 : Int32)), (.ref b38)])) (fun t_ k_ => XS.iconst X40.here hx rfl (hb hby at_50) k_) ?_
      refine own_go (T40.setTop (mkF m 52 #[.val (.int p0), .val (.int p1), .val (.int p2), .val (.int p3), .val (.int p4), .val (.int (p0 &&& (7 : Int32))), .unset, .val (.int (3 : Int32)), .val (.ref b38)] [(.int p2), (.int (1 : Int32)), (.ref b38)])) (fun t_ k_ => XS.iloadN X40.here hx rfl (hb hby at_51) rfl k_) ?_
      obtain ⟨_, _, ⟨T41, Lu41, ku41, nu41⟩, -, X41, ⟨Lc41, hQ41, lu41, yu41, zu41⟩, st41⟩ := Jvm.LawKit.callS X40 hx (y := (⟨"com/example/salp/salp/model/EdgeTypeOfPinLaw", "ch", "(I)C"⟩ : MethodName)) hown (mvT hZ (hw _ (List.mem_of_getElem? (i := 1) rfl))) (mvT hZ (hw _ (List.mem_of_getElem? (i := 2) rfl))) (mvT hZ (hw _ (List.mem_of_getElem? (i := 3) rfl))) (mvT hZ (hw _ (List.mem_of_getElem? (i := 4) rfl))) (by decide) (backOf (W := 2) (rm_ch l Z a0 hw [] (p2) h40 O40 ) hZ (hw _ (List.mem_of_getElem? (i := 4) rfl)) (hw _ (List.mem_of_getElem? (i := 3) rfl)) (by decide) (by decide)) (g := (mkF m 52 #[.val (.int p0), .val (.int p1), .val (.int p2), .val (.int p3), .val (.int p4), .val (.int (p0 &&& (7 : Int32))), .unset, .val (.int (3 : Int32)), .val (.ref b38)] [(.int p2), (.int (1 : Int32)), (.ref b38)])) rfl (by rw [hml]; rfl) (argsL := [(.int p2)]) (rest := [(.int (1 : Int32)), (.ref b38)]) (lenOf own_pd4 rfl) rfl (by show 2 * 0 + _ ≤ _; exact Nat.le_of_eq rfl) (hb hby at_52) (fun _ _ => ⟨rfl, e40, (by decide : 1 + 0 ≤ _), (by decide : 3 + 0 ≤ _)⟩)
      dsimp only [Pt.U, Pt.locs, Pt.cells, Pt.slots] at X41 lu41 yu41 zu41 st41 hQ41
      subst lu41 yu41 zu41
      obtain ⟨c41, rfl, N41q, hc41, e41⟩ := hQ41
      have N41 := Fr.app N40 N41q
      refine own_go (T41.setTop (mkF m 55 #[.val (.int p0), .val (.int p1), .val (.int p2), .val (.int p3), .val (.int p4), .val (.int (p0 &&& (7 : Int32))), .unset, .val (.int (3 : Int32)), .val (.ref b38)] [(.int c41), (.int (1 : Int32)), (.ref b38)])) (fun t_ k_ => st41 _ k_) ?_
      obtain ⟨cl42, Ar42, q42, Sz42, Nz42, Hz42, Gz42⟩ := V40
      have hin42 : ¬ ((1 : Int32) < 0 ∨ cl42.slots.size ≤ ((1 : Int32)).toNatClampNeg) := inb_of Sz42 ⟨by decide, by decide⟩
      obtain ⟨T42, h42, X42, e42, W42, st42⟩ := stC X41 hx hZ e41 Ar42 (j := (1 : Int32)) hin42  (g := (mkF m 55 #[.val (.int p0), .val (.int p1), .val (.int p2), .val (.int p3), .val (.int p4), .val (.int (p0 &&& (7 : Int32))), .unset, .val (.int (3 : Int32)), .val (.ref b38)] [(.int c41), (.int (1 : Int32)), (.ref b38)])) rfl rfl (hb hby at_55)
      have Fz43 := (Safe.wr W40 Sf38 R38.1 Sf38)
      have R42 := R40.trans (CHr.wr W42 Fz43 R40.1)
      have V42 : Arv Z h42 b38 k38 .char (3 : Int32) [(.int (nar .char c39)), (.int (nar .char c41)), (.int (0 : Int32))] (.int (0 : Int32)) := Arv.set Ar42 q42 Sz42 Nz42 Hz42 Gz42 (fits_nar_char _) W42 1 rfl (Nat.le_of_ble_eq_true rfl)
      have K42 : Keep h0 h42 [] := K40.wr W42 (Or.inr sz_b38)
      have N42 := Fr.snoc X42 N41 ge_b38
      have O42 := own_extW O40 W42 ge_b38
      refine own_go (T42.setTop (mkF m 56 #[.val (.int p0), .val (.int p1), .val (.int p2), .val (.int p3), .val (.int p4), .val (.int (p0 &&& (7 : Int32))), .unset, .val (.int (3 : Int32)), .val (.ref b38)] [])) (fun t_ k_ => st42 _ k_) ?_
      refine own_go (T42.setTop (mkF m 58 #[.val (.int p0), .val (.int p1), .val (.int p2), .val (.int p3), .val (.int p4), .val (.int (p0 &&& (7 : Int32))), .unset, .val (.int (3 : Int32)), .val (.ref b38)] [(.int (3 : Int32))])) (fun t_ k_ => XS.iload X42.here hx rfl (hb hby at_56) rfl k_) ?_
      refine own_go (T42.setTop (mkF m 59 #[.val (.int p0), .val (.int p1), .val (.int p2), .val (.int p3), .val (.int p4), .val (.int (p0 &&& (7 : Int32))), .unset, .val (.int (3 : Int32)), .val (.ref b38)] [(.int (2 : Int32)), (.int (3 : Int32))])) (fun t_ k_ => XS.iconst X42.here hx rfl (hb hby at_58) k_) ?_
      refine own_go (T42.setTop (mkF m 62 #[.val (.int p0), .val (.int p1), .val (.int p2), .val (.int p3), .val (.int p4), .val (.int (p0 &&& (7 : Int32))), .unset, .val (.int (3 : Int32)), .val (.ref b38)] [])) (fun t_ k_ => XS.icmpNo X42.here hx rfl (hb hby at_59) rfl (tlt (by decide : (2 : Int32) < (3 : Int32))).2.2.2 k_) ?_
      refine own_go (T42.setTop (mkF m 64 #[.val (.int p0), .val (.int p1), .val (.int p2), .val (.int p3), .val (.int p4), .val (.int (p0 &&& (7 : Int32))), .unset, .val (.int (3 : Int32)), .val (.ref b38)] [(.ref b38)])) (fun t_ k_ => XS.aload X42.here hx rfl (hb hby at_62) rfl rfl k_) ?_
      refine own_go (T42.setTop (mkF m 65 #[.val (.int p0), .val (.int p1), .val (.int p2), .val (.int p3), .val (.int p4), .val (.int (p0 &&& (7 : Int32))), .unset, .val (.int (3 : Int32)), .val (.ref b38)] [(.int (2 : Int32)), (.ref b38)])) (fun t_ k_ => XS.iconst X42.here hx rfl (hb hby at_64) k_) ?_
      refine own_go (T42.setTop (mkF m 66 #[.val (.int p0), .val (.int p1), .val (.int p2), .val (.int p3), .val (.int p4), .val (.int (p0 &&& (7 : Int32))), .unset, .val (.int (3 : Int32)), .val (.ref b38)] [(.int p3), (.int (2 : Int32)), (.ref b38)])) (fun t_ k_ => XS.iloadN X42.here hx rfl (hb hby at_65) rfl k_) ?_
      obtain ⟨_, _, ⟨T44, Lu44, ku44, nu44⟩, -, X44, ⟨Lc44, hQ44, lu44, yu44, zu44⟩, st44⟩ := Jvm.LawKit.callS X42 hx (y := (⟨"com/example/salp/salp/model/EdgeTypeOfPinLaw", "ch", "(I)C"⟩ : MethodName)) hown (mvT hZ (hw _ (List.mem_of_getElem? (i := 1) rfl))) (mvT hZ (hw _ (List.mem_of_getElem? (i := 2) rfl))) (mvT hZ (hw _ (List.mem_of_getElem? (i := 3) rfl))) (mvT hZ (hw _ (List.mem_of_getElem? (i := 4) rfl))) (by decide) (backOf (W := 2) (rm_ch l Z a0 hw [] (p3) h42 O42 ) hZ (hw _ (List.mem_of_getElem? (i := 4) rfl)) (hw _ (List.mem_of_getElem? (i := 3) rfl)) (by decide) (by decide)) (g := (mkF m 66 #[.val (.int p0), .val (.int p1), .val (.int p2), .val (.int p3), .val (.int p4), .val (.int (p0 &&& (7 : Int32))), .unset, .val (.int (3 : Int32)), .val (.ref b38)] [(.int p3), (.int (2 : Int32)), (.ref b38)])) rfl (by rw [hml]; rfl) (argsL := [(.int p3)]) (rest := [(.int (2 : Int32)), (.ref b38)]) (lenOf own_pd4 rfl) rfl (by show 2 * 0 + _ ≤ _; exact Nat.le_of_eq rfl) (hb hby at_66) (fun _ _ => ⟨rfl, e42, (by decide : 1 + 0 ≤ _), (by decide : 3 + 0 ≤ _)⟩)
      dsimp only [Pt.U, Pt.locs, Pt.cells, Pt.slots] at X44 lu44 yu44 zu44 st44 hQ44
      subst lu44 yu44 zu44
      obtain ⟨c44, rfl, N44q, hc44, e44⟩ := hQ44
      have N44 := Fr.app N42 N44q
      refine own_go (T44.setTop (mkF m 69 #[.val (.int p0), .val (.int p1), .val (.int p2), .val (.int p3), .val (.int p4), .val (.int (p0 &&& (7 : Int32))), .unset, .val (.int (3 : Int32)), .val (.ref b38)] [(.int c44), (.int (2 : Int32)), (.ref b38)])) (fun t_ k_ => st44 _ k_) ?_
      obtain ⟨cl45, Ar45, q45, Sz45, Nz45, Hz45, Gz45⟩ := V42
      have hin45 : ¬ ((2 : Int32) < 0 ∨ cl45.slots.size ≤ ((2 : Int32)).toNatClampNeg) := inb_of Sz45 ⟨by decide, by decide⟩
      obtain ⟨T45, h45, X45, e45, W45, st45⟩ := stC X44 hx hZ e44 Ar45 (j := (2 : Int32)) hin45  (g := (mkF m 69 #[.val (.int p0), .val (.int p1), .val (.int p2), .val (.int p3), .val (.int p4), .val (.int (p0 &&& (7 : Int32))), .unset, .val (.int (3 : Int32)), .val (.ref b38)] [(.int c44), (.int (2 : Int32)), (.ref b38)])) rfl rfl (hb hby at_69)
      have Fz46 := (Safe.wr W42 Fz43 R40.1 Fz43)
      have R45 := R42.trans (CHr.wr W45 Fz46 R42.1)
      have V45 : Arv Z h45 b38 k38 .char (3 : Int32) [(.int (nar .char c39)), (.int (nar .char c41)), (.int (nar .char c44))] (.int (0 : Int32)) := Arv.set Ar45 q45 Sz45 Nz45 Hz45 Gz45 (fits_nar_char _) W45 2 rfl (Nat.le_of_ble_eq_true rfl)
      have K45 : Keep h0 h45 [] := K42.wr W45 (Or.inr sz_b38)
      have N45 := Fr.snoc X45 N44 ge_b38
      have O45 := own_extW O42 W45 ge_b38
      refine own_go (T45.setTop (mkF m 70 #[.val (.int p0), .val (.int p1), .val (.int p2), .val (.int p3), .val (.int p4), .val (.int (p0 &&& (7 : Int32))), .unset, .val (.int (3 : Int32)), .val (.ref b38)] [])) (fun t_ k_ => st45 _ k_) ?_
      refine own_go (T45.setTop (mkF m 72 #[.val (.int p0), .val (.int p1), .val (.int p2), .val (.int p3), .val (.int p4), .val (.int (p0 &&& (7 : Int32))), .unset, .val (.int (3 : Int32)), .val (.ref b38)] [(.int (3 : Int32))])) (fun t_ k_ => XS.iload X45.here hx rfl (hb hby at_70) rfl k_) ?_
      refine own_go (T45.setTop (mkF m 73 #[.val (.int p0), .val (.int p1), .val (.int p2), .val (.int p3), .val (.int p4), .val (.int (p0 &&& (7 : Int32))), .unset, .val (.int (3 : Int32)), .val (.ref b38)] [(.int (3 : Int32)), (.int (3 : Int32))])) (fun t_ k_ => XS.iconst X45.here hx rfl (hb hby at_72) k_) ?_
      refine own_go (T45.setTop (mkF m 85 #[.val (.int p0), .val (.int p1), .val (.int p2), .val (.int p3), .val (.int p4), .val (.int (p0 &&& (7 : Int32))), .unset, .val (.int (3 : Int32)), .val (.ref b38)] [])) (fun t_ k_ => XS.icmpYes X45.here hx rfl (pc0 := 73) (pc' := 85) rfl (hb hby at_73) rfl (flt (by decide : ¬ ((3 : Int32) < (3 : Int32)))).2.2.2 (by decide) (by decide) k_) ?_
      obtain ⟨T47, h47, X47, e47, E47, A47, D47, U47, st47⟩ := newO X45 hx hZ hown (hw _ (List.mem_of_getElem? (i := 6) rfl)) (hw _ (List.mem_of_getElem? (i := 7) rfl)) (hw _ (List.mem_of_getElem? (i := 8) rfl)) e45 (g := (mkF m 85 #[.val (.int p0), .val (.int p1), .val (.int p2), .val (.int p3), .val (.int p4), .val (.int (p0 &&& (7 : Int32))), .unset, .val (.int (3 : Int32)), .val (.ref b38)] [])) rfl (hb hby at_85) (by decide) (by decide)
      obtain ⟨b47, g47⟩ : ∃ z, z = h45.size := ⟨_, rfl⟩
      rw [← g47] at A47 D47 U47 st47
      have ge_b47 : Z.heap.size ≤ b47 := Nat.le_trans O45.1 (Nat.le_of_eq g47.symm)
      have sz_b47 : h0.size ≤ b47 := Nat.le_trans K45.1 (Nat.le_of_eq g47.symm)
      have R47 := R45.trans (CHr.ext E47 R45.1)
      have Sf47 := Safe.ext (x := b47) E47 R45.1 (Safe.new (Nat.le_of_eq g47.symm))
      have K47 : Keep h0 h47 [] := K45.ext E47
      have O47 := own_ext O45 E47
      have Fcoder_47 : Fld Z h47 b47 "java/lang/String" "coder" "B" (.int (0 : Int32)) := D47 (Or.inr (hw _ (List.mem_of_getElem? (i := 32) rfl))) (ty := .byte) (by decide)
      have Fvalue_47 : Fld Z h47 b47 "java/lang/String" "value" "[B" .null := D47 (Or.inr (hw _ (List.mem_of_getElem? (i := 34) rfl))) (ty := (.array .byte)) (by decide)
      refine own_go (T47.setTop (mkF m 88 #[.val (.int p0), .val (.int p1), .val (.int p2), .val (.int p3), .val (.int p4), .val (.int (p0 &&& (7 : Int32))), .unset, .val (.int (3 : Int32)), .val (.ref b38)] [(.ref b47)])) (fun t_ k_ => st47 _ k_) ?_
      refine own_go (T47.setTop (mkF m 89 #[.val (.int p0), .val (.int p1), .val (.int p2), .val (.int p3), .val (.int p4), .val (.int (p0 &&& (7 : Int32))), .unset, .val (.int (3 : Int32)), .val (.ref b38)] [(.ref b47), (.ref b47)])) (fun t_ k_ => XS.dup X47.here hx rfl (hb hby at_88) rfl rfl k_) ?_
      refine own_go (T47.setTop (mkF m 91 #[.val (.int p0), .val (.int p1), .val (.int p2), .val (.int p3), .val (.int p4), .val (.int (p0 &&& (7 : Int32))), .unset, .val (.int (3 : Int32)), .val (.ref b38)] [(.ref b38), (.ref b47), (.ref b47)])) (fun t_ k_ => XS.aload X47.here hx rfl (hb hby at_89) rfl rfl k_) ?_
      have hp48 : ∀ c ∈ ([(nar .char c39), (nar .char c41), (nar .char c44)] : List Int32), ¬ c < 0 ∧ ¬ (255 : Int32) < c := (own_allS (own_okb _ (own_narok _ hc39)) (own_allS (own_okb _ (own_narok _ hc41)) (own_allS (own_okb _ (own_narok _ hc44)) own_all0)))
      have Fz49 := (V45.ext E47)
      obtain ⟨_, _, ⟨T50, Lu50, ku50, nu50⟩, -, X50, ⟨Lc50, hQ50, lu50, yu50, zu50⟩, st50⟩ := X47.specialBack hx (y := (⟨"java/lang/String", "<init>", "([C)V"⟩ : MethodName)) rfl hown (mvT hZ (hw _ (List.mem_of_getElem? (i := 9) rfl))) (mvT hZ (hw _ (List.mem_of_getElem? (i := 10) rfl))) (mvT hZ (hw _ (List.mem_of_getElem? (i := 11) rfl))) (by decide) (StrChars.Road.backV (W := 1) hZ (fun d hd => hw d (own_words d hd)) (kI := 4) (hw _ (List.mem_of_getElem? (i := 7) rfl)) (cs := ([(nar .char c39), (nar .char c41), (nar .char c44)] : List Int32)) (bs := (([(nar .char c39), (nar .char c41), (nar .char c44)] : List Int32)).map (fun c => c.toInt8.toInt32)) (n := 3) (n0 := Z.heap.size) ge_b47 (O47.1) A47 Fvalue_47 Fcoder_47 Fz49 (S_CS.ext O47) n_CS rfl rfl (by decide) (by decide) hp48 rfl (by decide) (by decide)) (g := (mkF m 91 #[.val (.int p0), .val (.int p1), .val (.int p2), .val (.int p3), .val (.int p4), .val (.int (p0 &&& (7 : Int32))), .unset, .val (.int (3 : Int32)), .val (.ref b38)] [(.ref b38), (.ref b47), (.ref b47)])) rfl (by rw [hml]; rfl) (Steps.refl _) (a := b47) (argsL := [(.ref b38)]) (rest := [(.ref b47)]) (lenOf own_pd8 rfl) rfl (by show 2 * 0 + _ ≤ _; exact Nat.le_of_eq rfl) (hb hby at_91) (fun _ _ => ⟨rfl, e47, (by decide : 2 + 1 ≤ _), (by decide : 7 + 3 ≤ _)⟩)
      dsimp only [Pt.U, Pt.locs, Pt.cells, Pt.slots] at X50 lu50 yu50 zu50 st50 hQ50
      subst lu50 yu50 zu50
      obtain ⟨rfl, N50q, K50q, X50q, C50q, t50, kb50, u1_50, u2_50, u3_50, V50q, A50q⟩ := hQ50
      have N50 := Fr.app N45 N50q
      have O50 := own_extK O47 K50q (allS ge_b47 all0)
      have KK50 : Keep h0 T50.heap [] := K47.trans K50q (allS (Or.inr sz_b47) all0)
      have R50 := R47.trans (CHr.keep K50q (allS Sf47 all0) R47.1)
      refine own_go (T50.setTop (mkF m 94 #[.val (.int p0), .val (.int p1), .val (.int p2), .val (.int p3), .val (.int p4), .val (.int (p0 &&& (7 : Int32))), .unset, .val (.int (3 : Int32)), .val (.ref b38)] [(.ref b47)])) (fun t_ k_ => st50.trans k_) ?_
      refine own_go (T50.setTop (mkF m 96 #[.val (.int p0), .val (.int p1), .val (.int p2), .val (.int p3), .val (.int p4), .val (.int (p0 &&& (7 : Int32))), .val (.ref b47), .val (.int (3 : Int32)), .val (.ref b38)] [])) (fun t_ k_ => XS.astore X50.here hx rfl (hb hby at_94) rfl rfl (l' := #[.val (.int p0), .val (.int p1), .val (.int p2), .val (.int p3), .val (.int p4), .val (.int (p0 &&& (7 : Int32))), .val (.ref b47), .val (.int (3 : Int32)), .val (.ref b38)]) rfl k_) ?_
      refine own_go (T50.setTop (mkF m 98 #[.val (.int p0), .val (.int p1), .val (.int p2), .val (.int p3), .val (.int p4), .val (.int (p0 &&& (7 : Int32))), .val (.ref b47), .val (.int (3 : Int32)), .val (.ref b38)] [(.ref b47)])) (fun t_ k_ => XS.aload X50.here hx rfl (hb hby at_96) rfl rfl k_) ?_
      obtain ⟨_, _, ⟨T51, Lu51, ku51, nu51⟩, -, X51, hS51, hg51, ⟨Lc51, hQ51, lu51, yu51, zu51⟩, st51⟩ := callSS X50 hx (y := (⟨"com/example/salp/salp/model/EdgeType", "of", "(Ljava/lang/String;)Lcom/example/salp/salp/model/EdgeType;"⟩ : MethodName)) hown (mvT hZ (hw _ (List.mem_of_getElem? (i := 35) rfl))) (mvT hZ (hw _ (List.mem_of_getElem? (i := 36) rfl))) (mvT hZ (hw _ (List.mem_of_getElem? (i := 37) rfl))) (mvT hZ (hw _ (List.mem_of_getElem? (i := 38) rfl))) (by decide) (backOfS (W := 0) (rm_of l Z a0 hw [] (b47) (t50) (kb50) (([(nar .char c39), (nar .char c41), (nar .char c44)] : List Int32)) (cs0) (sf0) T50.heap O50 w X50q V50q C50q A50q (own_okAS (own_narok _ hc39) (own_okAS (own_narok _ hc41) (own_okAS (own_narok _ hc44) own_okA0))) (Nat.le_of_ble_eq_true rfl) (Nat.le_of_ble_eq_true rfl)) hZ (hw _ (List.mem_of_getElem? (i := 38) rfl)) (hw _ (List.mem_of_getElem? (i := 37) rfl)) (by decide) (by decide)) (g := (mkF m 98 #[.val (.int p0), .val (.int p1), .val (.int p2), .val (.int p3), .val (.int p4), .val (.int (p0 &&& (7 : Int32))), .val (.ref b47), .val (.int (3 : Int32)), .val (.ref b38)] [(.ref b47)])) rfl (by rw [hml]; rfl) (argsL := [(.ref b47)]) (rest := []) (lenOf own_pd5 rfl) rfl (by show 2 * 0 + _ ≤ _; exact Nat.le_of_eq rfl) (hb hby at_98) (fun _ _ => ⟨rfl, rfl, (by decide : 3 + 3 ≤ _), (by decide : 10 + 21 ≤ _)⟩)
      dsimp only [Pt.U, Pt.locs, Pt.cells, Pt.slots] at X51 lu51 yu51 zu51 st51 hQ51 hS51 hg51
      subst lu51 yu51 zu51
      obtain ⟨X51, hS, hZ, hown⟩ := rebS hS (by rw [show T50.heap = T50.heap from rfl]; exact (Nat.le_trans (Nat.le_trans (Nat.le_trans (Nat.le_trans (Nat.le_trans (Nat.le_trans hk E38.1) (Keep.of_wr W40).1) (Keep.of_wr W42).1) (Keep.of_wr W45).1) E47.1) K50q.1)) X51 hS51 hg51 hZ hown
      obtain ⟨r51, rfl, N51q, K51q, X51q, F51q⟩ := hQ51
      have N51 := Fr.app N50 N51q
      have O51 := own_extK O50 K51q all0
      have KK51 : Keep h0 T51.heap [] := KK50.trans K51q all0
      refine own_go (T51.setTop (mkF m 101 #[.val (.int p0), .val (.int p1), .val (.int p2), .val (.int p3), .val (.int p4), .val (.int (p0 &&& (7 : Int32))), .val (.ref b47), .val (.int (3 : Int32)), .val (.ref b38)] [(.ref r51)])) (fun t_ k_ => st51.trans k_) ?_
      refine own_go (T51.setTop (mkF m 103 #[.val (.int p0), .val (.int p1), .val (.int p2), .val (.int p3), .val (.int p4), .val (.int (p0 &&& (7 : Int32))), .val (.ref b47), .val (.ref r51), .val (.ref b38)] [])) (fun t_ k_ => XS.astore X51.here hx rfl (hb hby at_101) rfl rfl (l' := #[.val (.int p0), .val (.int p1), .val (.int p2), .val (.int p3), .val (.int p4), .val (.int (p0 &&& (7 : Int32))), .val (.ref b47), .val (.ref r51), .val (.ref b38)]) rfl k_) ?_
      refine own_go (T51.setTop (mkF m 105 #[.val (.int p0), .val (.int p1), .val (.int p2), .val (.int p3), .val (.int p4), .val (.int (p0 &&& (7 : Int32))), .val (.ref b47), .val (.ref r51), .val (.ref b38)] [(.ref r51)])) (fun t_ k_ => XS.aload X51.here hx rfl (hb hby at_103) rfl rfl k_) ?_
      obtain ⟨cq52, kq52, q52a, q52b, q52c⟩ := isOf hZ rfl X51q
      obtain ⟨_, _, ⟨T52, Lu52, ku52, nu52⟩, -, X52, ⟨Lc52, hQ52, lu52, yu52, zu52⟩, st52⟩ := X51.virtualBack hx (y := (⟨"com/example/salp/salp/model/EdgeType", "name", "()Ljava/lang/String;"⟩ : MethodName)) (z := (⟨"com/example/salp/salp/model/EdgeType", "name", "()Ljava/lang/String;"⟩ : MethodName)) hown (mvT hZ (hw _ (List.mem_of_getElem? (i := 91) rfl))) (mvT hZ (hw _ (List.mem_of_getElem? (i := 92) rfl))) (notFace_of_selects (args := #[]) (mvT hZ (hw _ (List.mem_of_getElem? (i := 94) rfl)))) (mvT hZ (hw _ (List.mem_of_getElem? (i := 94) rfl))) (mvT hZ (hw _ (List.mem_of_getElem? (i := 93) rfl))) (by decide) (backOf (W := 0) (rm_gn l Z a0 hw [] (r51) (b47) T51.heap O51 F51q) hZ (hw _ (List.mem_of_getElem? (i := 95) rfl)) (hw _ (List.mem_of_getElem? (i := 37) rfl)) (by decide) (by decide)) q52a q52c (g := (mkF m 105 #[.val (.int p0), .val (.int p1), .val (.int p2), .val (.int p3), .val (.int p4), .val (.int (p0 &&& (7 : Int32))), .val (.ref b47), .val (.ref r51), .val (.ref b38)] [(.ref r51)])) rfl (by rw [hml]; rfl) (Steps.refl _) (argsL := []) (rest := []) (lenOf own_pd6 rfl) rfl (by show 2 * 0 + _ ≤ _; exact Nat.le_of_eq rfl) (hb hby at_105) (fun _ _ => ⟨rfl, rfl, (by decide : 6 + 0 ≤ _), (by decide : 31 + 0 ≤ _)⟩)
      dsimp only [Pt.U, Pt.locs, Pt.cells, Pt.slots] at X52 lu52 yu52 zu52 st52 hQ52
      subst lu52 yu52 zu52
      obtain ⟨rfl, N52q, e52⟩ := hQ52
      have N52 := Fr.app N51 N52q
      refine own_go (T52.setTop (mkF m 108 #[.val (.int p0), .val (.int p1), .val (.int p2), .val (.int p3), .val (.int p4), .val (.int (p0 &&& (7 : Int32))), .val (.ref b47), .val (.ref r51), .val (.ref b38)] [(.ref b47)])) (fun t_ k_ => st52.trans k_) ?_
      refine own_go (T52.setTop (mkF m 110 #[.val (.int p0), .val (.int p1), .val (.int p2), .val (.int p3), .val (.int p4), .val (.int (p0 &&& (7 : Int32))), .val (.ref b47), .val (.ref r51), .val (.ref b38)] [(.ref b47), (.ref b47)])) (fun t_ k_ => XS.aload X52.here hx rfl (hb hby at_108) rfl rfl k_) ?_
      have Fz54 := (X50q.keep K51q)
      obtain ⟨cq53, kq53, q53a, q53b, q53c⟩ := isOf hZ e52 Fz54
      obtain ⟨_, _, ⟨T53, Lu53, ku53, nu53⟩, -, X53, ⟨Lc53, hQ53, lu53, yu53, zu53⟩, st53⟩ := X52.virtualBack hx (y := (⟨"java/lang/String", "equals", "(Ljava/lang/Object;)Z"⟩ : MethodName)) (z := (⟨"java/lang/String", "equals", "(Ljava/lang/Object;)Z"⟩ : MethodName)) hown (mvT hZ (hw _ (List.mem_of_getElem? (i := 96) rfl))) (mvT hZ (hw _ (List.mem_of_getElem? (i := 97) rfl))) (notFace_of_selects (args := #[]) (mvT hZ (hw _ (List.mem_of_getElem? (i := 99) rfl)))) (mvT hZ (hw _ (List.mem_of_getElem? (i := 99) rfl))) (mvT hZ (hw _ (List.mem_of_getElem? (i := 98) rfl))) (by decide) (backOf (W := 0) (rm_eqs l Z a0 hw [] (b47) T51.heap O51 ) hZ (hw _ (List.mem_of_getElem? (i := 100) rfl)) (hw _ (List.mem_of_getElem? (i := 8) rfl)) (by decide) (by decide)) q53a q53c (g := (mkF m 110 #[.val (.int p0), .val (.int p1), .val (.int p2), .val (.int p3), .val (.int p4), .val (.int (p0 &&& (7 : Int32))), .val (.ref b47), .val (.ref r51), .val (.ref b38)] [(.ref b47), (.ref b47)])) rfl (by rw [hml]; rfl) (Steps.refl _) (argsL := [(.ref b47)]) (rest := []) (lenOf own_pd7 rfl) rfl (by show 2 * 0 + _ ≤ _; exact Nat.le_of_eq rfl) (hb hby at_110) (fun _ _ => ⟨rfl, e52, (by decide : 6 + 0 ≤ _), (by decide : 31 + 0 ≤ _)⟩)
      dsimp only [Pt.U, Pt.locs, Pt.cells, Pt.slots] at X53 lu53 yu53 zu53 st53 hQ53
      subst lu53 yu53 zu53
      obtain ⟨rfl, N53q, e53⟩ := hQ53
      have N53 := Fr.app N52 N53q
      refine own_go (T53.setTop (mkF m 113 #[.val (.int p0), .val (.int p1), .val (.int p2), .val (.int p3), .val (.int p4), .val (.int (p0 &&& (7 : Int32))), .val (.ref b47), .val (.ref r51), .val (.ref b38)] [(.int (1 : Int32))])) (fun t_ k_ => st53.trans k_) ?_
      refine own_go (T53.setTop (mkF m 116 #[.val (.int p0), .val (.int p1), .val (.int p2), .val (.int p3), .val (.int p4), .val (.int (p0 &&& (7 : Int32))), .val (.ref b47), .val (.ref r51), .val (.ref b38)] [])) (fun t_ k_ => XS.ifNo X53.here hx rfl (hb hby at_113) rfl ((if0 _ _).trans (feq (by decide : ¬ ((1 : Int32) = (0 : Int32)))).1) k_) ?_
      refine own_go (T53.setTop (mkF m 118 #[.val (.int p0), .val (.int p1), .val (.int p2), .val (.int p3), .val (.int p4), .val (.int (p0 &&& (7 : Int32))), .val (.ref b47), .val (.ref r51), .val (.ref b38)] [(.ref r51)])) (fun t_ k_ => XS.aload X53.here hx rfl (hb hby at_116) rfl rfl k_) ?_
      obtain ⟨cq55, kq55, q55a, q55b, q55c⟩ := isOf hZ e53 X51q
      obtain ⟨_, _, ⟨T55, Lu55, ku55, nu55⟩, -, X55, ⟨Lc55, hQ55, lu55, yu55, zu55⟩, st55⟩ := X53.virtualBack hx (y := (⟨"com/example/salp/salp/model/EdgeType", "toString", "()Ljava/lang/String;"⟩ : MethodName)) (z := (⟨"com/example/salp/salp/model/EdgeType", "toString", "()Ljava/lang/String;"⟩ : MethodName)) hown (mvT hZ (hw _ (List.mem_of_getElem? (i := 101) rfl))) (mvT hZ (hw _ (List.mem_of_getElem? (i := 102) rfl))) (notFace_of_selects (args := #[]) (mvT hZ (hw _ (List.mem_of_getElem? (i := 104) rfl)))) (mvT hZ (hw _ (List.mem_of_getElem? (i := 104) rfl))) (mvT hZ (hw _ (List.mem_of_getElem? (i := 103) rfl))) (by decide) (backOf (W := 0) (rm_gt l Z a0 hw [] (r51) (b47) T51.heap O51 F51q) hZ (hw _ (List.mem_of_getElem? (i := 105) rfl)) (hw _ (List.mem_of_getElem? (i := 37) rfl)) (by decide) (by decide)) q55a q55c (g := (mkF m 118 #[.val (.int p0), .val (.int p1), .val (.int p2), .val (.int p3), .val (.int p4), .val (.int (p0 &&& (7 : Int32))), .val (.ref b47), .val (.ref r51), .val (.ref b38)] [(.ref r51)])) rfl (by rw [hml]; rfl) (Steps.refl _) (argsL := []) (rest := []) (lenOf own_pd6 rfl) rfl (by show 2 * 0 + _ ≤ _; exact Nat.le_of_eq rfl) (hb hby at_118) (fun _ _ => ⟨rfl, e53, (by decide : 6 + 0 ≤ _), (by decide : 31 + 0 ≤ _)⟩)
      dsimp only [Pt.U, Pt.locs, Pt.cells, Pt.slots] at X55 lu55 yu55 zu55 st55 hQ55
      subst lu55 yu55 zu55
      obtain ⟨rfl, N55q, e55⟩ := hQ55
      have N55 := Fr.app N53 N55q
      refine own_go (T55.setTop (mkF m 121 #[.val (.int p0), .val (.int p1), .val (.int p2), .val (.int p3), .val (.int p4), .val (.int (p0 &&& (7 : Int32))), .val (.ref b47), .val (.ref r51), .val (.ref b38)] [(.ref b47)])) (fun t_ k_ => st55.trans k_) ?_
      refine own_go (T55.setTop (mkF m 123 #[.val (.int p0), .val (.int p1), .val (.int p2), .val (.int p3), .val (.int p4), .val (.int (p0 &&& (7 : Int32))), .val (.ref b47), .val (.ref r51), .val (.ref b38)] [(.ref b47), (.ref b47)])) (fun t_ k_ => XS.aload X55.here hx rfl (hb hby at_121) rfl rfl k_) ?_
      obtain ⟨cq56, kq56, q56a, q56b, q56c⟩ := isOf hZ e55 Fz54
      obtain ⟨_, _, ⟨T56, Lu56, ku56, nu56⟩, -, X56, ⟨Lc56, hQ56, lu56, yu56, zu56⟩, st56⟩ := X55.virtualBack hx (y := (⟨"java/lang/String", "equals", "(Ljava/lang/Object;)Z"⟩ : MethodName)) (z := (⟨"java/lang/String", "equals", "(Ljava/lang/Object;)Z"⟩ : MethodName)) hown (mvT hZ (hw _ (List.mem_of_getElem? (i := 96) rfl))) (mvT hZ (hw _ (List.mem_of_getElem? (i := 97) rfl))) (notFace_of_selects (args := #[]) (mvT hZ (hw _ (List.mem_of_getElem? (i := 99) rfl)))) (mvT hZ (hw _ (List.mem_of_getElem? (i := 99) rfl))) (mvT hZ (hw _ (List.mem_of_getElem? (i := 98) rfl))) (by decide) (backOf (W := 0) (rm_eqs l Z a0 hw [] (b47) T51.heap O51 ) hZ (hw _ (List.mem_of_getElem? (i := 100) rfl)) (hw _ (List.mem_of_getElem? (i := 8) rfl)) (by decide) (by decide)) q56a q56c (g := (mkF m 123 #[.val (.int p0), .val (.int p1), .val (.int p2), .val (.int p3), .val (.int p4), .val (.int (p0 &&& (7 : Int32))), .val (.ref b47), .val (.ref r51), .val (.ref b38)] [(.ref b47), (.ref b47)])) rfl (by rw [hml]; rfl) (Steps.refl _) (argsL := [(.ref b47)]) (rest := []) (lenOf own_pd7 rfl) rfl (by show 2 * 0 + _ ≤ _; exact Nat.le_of_eq rfl) (hb hby at_123) (fun _ _ => ⟨rfl, e55, (by decide : 6 + 0 ≤ _), (by decide : 31 + 0 ≤ _)⟩)
      dsimp only [Pt.U, Pt.locs, Pt.cells, Pt.slots] at X56 lu56 yu56 zu56 st56 hQ56
      subst lu56 yu56 zu56
      obtain ⟨rfl, N56q, e56⟩ := hQ56
      have N56 := Fr.app N55 N56q
      refine own_go (T56.setTop (mkF m 126 #[.val (.int p0), .val (.int p1), .val (.int p2), .val (.int p3), .val (.int p4), .val (.int (p0 &&& (7 : Int32))), .val (.ref b47), .val (.ref r51), .val (.ref b38)] [(.int (1 : Int32))])) (fun t_ k_ => st56.trans k_) ?_
      refine own_go (T56.setTop (mkF m 129 #[.val (.int p0), .val (.int p1), .val (.int p2), .val (.int p3), .val (.int p4), .val (.int (p0 &&& (7 : Int32))), .val (.ref b47), .val (.ref r51), .val (.ref b38)] [])) (fun t_ k_ => XS.ifNo X56.here hx rfl (hb hby at_126) rfl ((if0 _ _).trans (feq (by decide : ¬ ((1 : Int32) = (0 : Int32)))).1) k_) ?_
      refine own_go (T56.setTop (mkF m 130 #[.val (.int p0), .val (.int p1), .val (.int p2), .val (.int p3), .val (.int p4), .val (.int (p0 &&& (7 : Int32))), .val (.ref b47), .val (.ref r51), .val (.ref b38)] [(.int (1 : Int32))])) (fun t_ k_ => XS.iconst X56.here hx rfl (hb hby at_129) k_) ?_
      refine own_go (T56.setTop (mkF m 134 #[.val (.int p0), .val (.int p1), .val (.int p2), .val (.int p3), .val (.int p4), .val (.int (p0 &&& (7 : Int32))), .val (.ref b47), .val (.ref r51), .val (.ref b38)] [(.int (1 : Int32))])) (fun t_ k_ => XS.goto X56.here hx rfl (pc0 := 130) (pc' := 134) rfl (hb hby at_130) (by decide) (by decide) k_) ?_
      obtain ⟨fs, hr, hrun, hended, hRW⟩ := X56.leaveW hS (by rw [show T56.heap = T51.heap from e56]; exact (Nat.le_refl _)) (v := some (.int (nar .boolean (1 : Int32)))) (fun h => by rw [Bd.returns] at h; cases h)
      refine ⟨_, _, retN X56 hx (t := .boolean) Bd.returns (by simp) (hb hby at_134) hr, hrun, hended, _, _, rfl, ?_, hRW.1, hRW.2.1, hRW.2.2.1, hRW.2.2.2.mono (by decide) (by decide)⟩
      show Q_law Z p0 p1 p2 p3 p4 cs0 sf0 h0 _ T56.heap _
      exact ⟨rfl, N56, trivial⟩
    ·
      rw [q]
      rw [show ((3 : Int32) + 1) = 4 from rfl]
      refine own_go (s₁.setTop (mkF m 30 #[.val (.int p0), .val (.int p1), .val (.int p2), .val (.int p3), .val (.int p4), .val (.int (p0 &&& (7 : Int32))), .unset, .val (.int (4 : Int32)), .unset] [(.int (4 : Int32))])) (fun t_ k_ => XS.iload X0.here hx rfl (hb hby at_28) rfl k_) ?_
      obtain ⟨T57, h57, k57, X57, e57, E57, A57, st57⟩ := newP X0 hx hZ (hw _ (List.mem_of_getElem? (i := 0) rfl)) e0 (g := (mkF m 30 #[.val (.int p0), .val (.int p1), .val (.int p2), .val (.int p3), .val (.int p4), .val (.int (p0 &&& (7 : Int32))), .unset, .val (.int (4 : Int32)), .unset] [(.int (4 : Int32))])) rfl (hb hby at_30) rfl (by decide) (cap := 4) (by decide) (by decide) (by decide) (by decide)
      obtain ⟨b57, g57⟩ : ∃ z, z = h0.size := ⟨_, rfl⟩
      rw [← g57] at A57 st57
      have ge_b57 : Z.heap.size ≤ b57 := Nat.le_trans O.1 (Nat.le_of_eq g57.symm)
      have sz_b57 : h0.size ≤ b57 := Nat.le_trans (Keep.refl h0 []).1 (Nat.le_of_eq g57.symm)
      have R57 := R0.trans (CHr.ext E57 R0.1)
      have Sf57 := Safe.ext (x := b57) E57 R0.1 (Safe.new (Nat.le_of_eq g57.symm))
      have K57 : Keep h0 h57 [] := (Keep.refl h0 []).ext E57
      have O57 := own_ext O E57
      have V57 : Arv Z h57 b57 k57 .char (4 : Int32) [(.int (0 : Int32)), (.int (0 : Int32)), (.int (0 : Int32)), (.int (0 : Int32))] (.int (0 : Int32)) := (Arv.new A57 (by decide)).pad (pad_rep [] (.int (0 : Int32)) 4)
      refine own_go (T57.setTop (mkF m 32 #[.val (.int p0), .val (.int p1), .val (.int p2), .val (.int p3), .val (.int p4), .val (.int (p0 &&& (7 : Int32))), .unset, .val (.int (4 : Int32)), .unset] [(.ref b57)])) (fun t_ k_ => st57 _ k_) ?_
      refine own_go (T57.setTop (mkF m 34 #[.val (.int p0), .val (.int p1), .val (.int p2), .val (.int p3), .val (.int p4), .val (.int (p0 &&& (7 : Int32))), .unset, .val (.int (4 : Int32)), .val (.ref b57)] [])) (fun t_ k_ => XS.astore X57.here hx rfl (hb hby at_32) rfl rfl (l' := #[.val (.int p0), .val (.int p1), .val (.int p2), .val (.int p3), .val (.int p4), .val (.int (p0 &&& (7 : Int32))), .unset, .val (.int (4 : Int32)), .val (.ref b57)]) rfl k_) ?_
      refine own_go (T57.setTop (mkF m 36 #[.val (.int p0), .val (.int p1), .val (.int p2), .val (.int p3), .val (.int p4), .val (.int (p0 &&& (7 : Int32))), .unset, .val (.int (4 : Int32)), .val (.ref b57)] [(.ref b57)])) (fun t_ k_ => XS.aload X57.here hx rfl (hb hby at_34) rfl rfl k_) ?_
      refine own_go (T57.setTop (mkF m 37 #[.val (.int p0), .val (.int p1), .val (.int p2), .val (.int p3), .val (.int p4), .val (.int (p0 &&& (7 : Int32))), .unset, .val (.int (4 : Int32)), .val (.ref b57)] [(.int (0 : Int32)), (.ref b57)])) (fun t_ k_ => XS.iconst X57.here hx rfl (hb hby at_36) k_) ?_
      refine own_go (T57.setTop (mkF m 38 #[.val (.int p0), .val (.int p1), .val (.int p2), .val (.int p3), .val (.int p4), .val (.int (p0 &&& (7 : Int32))), .unset, .val (.int (4 : Int32)), .val (.ref b57)] [(.int p1), (.int (0 : Int32)), (.ref b57)])) (fun t_ k_ => XS.iloadN X57.here hx rfl (hb hby at_37) rfl k_) ?_
      obtain ⟨_, _, ⟨T58, Lu58, ku58, nu58⟩, -, X58, ⟨Lc58, hQ58, lu58, yu58, zu58⟩, st58⟩ := Jvm.LawKit.callS X57 hx (y := (⟨"com/example/salp/salp/model/EdgeTypeOfPinLaw", "ch", "(I)C"⟩ : MethodName)) hown (mvT hZ (hw _ (List.mem_of_getElem? (i := 1) rfl))) (mvT hZ (hw _ (List.mem_of_getElem? (i := 2) rfl))) (mvT hZ (hw _ (List.mem_of_getElem? (i := 3) rfl))) (mvT hZ (hw _ (List.mem_of_getElem? (i := 4) rfl))) (by decide) (backOf (W := 2) (rm_ch l Z a0 hw [] (p1) h57 O57 ) hZ (hw _ (List.mem_of_getElem? (i := 4) rfl)) (hw _ (List.mem_of_getElem? (i := 3) rfl)) (by decide) (by decide)) (g := (mkF m 38 #[.val (.int p0), .val (.int p1), .val (.int p2), .val (.int p3), .val (.int p4), .val (.int (p0 &&& (7 : Int32))), .unset, .val (.int (4 : Int32)), .val (.ref b57)] [(.int p1), (.int (0 : Int32)), (.ref b57)])) rfl (by rw [hml]; rfl) (argsL := [(.int p1)]) (rest := [(.int (0 : Int32)), (.ref b57)]) (lenOf own_pd4 rfl) rfl (by show 2 * 0 + _ ≤ _; exact Nat.le_of_eq rfl) (hb hby at_38) (fun _ _ => ⟨rfl, e57, (by decide : 1 + 0 ≤ _), (by decide : 4 + 0 ≤ _)⟩)
      dsimp only [Pt.U, Pt.locs, Pt.cells, Pt.slots] at X58 lu58 yu58 zu58 st58 hQ58
      subst lu58 yu58 zu58
      obtain ⟨c58, rfl, N58q, hc58, e58⟩ := hQ58
      have N58 := Fr.app N0 N58q
      refine own_go (T58.setTop (mkF m 41 #[.val (.int p0), .val (.int p1), .val (.int p2), .val (.int p3), .val (.int p4), .val (.int (p0 &&& (7 : Int32))), .unset, .val (.int (4 : Int32)), .val (.ref b57)] [(.int c58), (.int (0 : Int32)), (.ref b57)])) (fun t_ k_ => st58 _ k_) ?_
      obtain ⟨cl59, Ar59, q59, Sz59, Nz59, Hz59, Gz59⟩ := V57
      have hin59 : ¬ ((0 : Int32) < 0 ∨ cl59.slots.size ≤ ((0 : Int32)).toNatClampNeg) := inb_of Sz59 ⟨by decide, by decide⟩
      obtain ⟨T59, h59, X59, e59, W59, st59⟩ := stC X58 hx hZ e58 Ar59 (j := (0 : Int32)) hin59  (g := (mkF m 41 #[.val (.int p0), .val (.int p1), .val (.int p2), .val (.int p3), .val (.int p4), .val (.int (p0 &&& (7 : Int32))), .unset, .val (.int (4 : Int32)), .val (.ref b57)] [(.int c58), (.int (0 : Int32)), (.ref b57)])) rfl rfl (hb hby at_41)
      have R59 := R57.trans (CHr.wr W59 Sf57 R57.1)
      have V59 : Arv Z h59 b57 k57 .char (4 : Int32) [(.int (nar .char c58)), (.int (0 : Int32)), (.int (0 : Int32)), (.int (0 : Int32))] (.int (0 : Int32)) := Arv.set Ar59 q59 Sz59 Nz59 Hz59 Gz59 (fits_nar_char _) W59 0 rfl (Nat.le_of_ble_eq_true rfl)
      have K59 : Keep h0 h59 [] := K57.wr W59 (Or.inr sz_b57)
      have N59 := Fr.snoc X59 N58 ge_b57
      have O59 := own_extW O57 W59 ge_b57
      refine own_go (T59.setTop (mkF m 42 #[.val (.int p0), .val (.int p1), .val (.int p2), .val (.int p3), .val (.int p4), .val (.int (p0 &&& (7 : Int32))), .unset, .val (.int (4 : Int32)), .val (.ref b57)] [])) (fun t_ k_ => st59 _ k_) ?_
      refine own_go (T59.setTop (mkF m 44 #[.val (.int p0), .val (.int p1), .val (.int p2), .val (.int p3), .val (.int p4), .val (.int (p0 &&& (7 : Int32))), .unset, .val (.int (4 : Int32)), .val (.ref b57)] [(.int (4 : Int32))])) (fun t_ k_ => XS.iload X59.here hx rfl (hb hby at_42) rfl k_) ?_
      refine own_go (T59.setTop (mkF m 45 #[.val (.int p0), .val (.int p1), .val (.int p2), .val (.int p3), .val (.int p4), .val (.int (p0 &&& (7 : Int32))), .unset, .val (.int (4 : Int32)), .val (.ref b57)] [(.int (1 : Int32)), (.int (4 : Int32))])) (fun t_ k_ => XS.iconst X59.here hx rfl (hb hby at_44) k_) ?_
      refine own_go (T59.setTop (mkF m 48 #[.val (.int p0), .val (.int p1), .val (.int p2), .val (.int p3), .val (.int p4), .val (.int (p0 &&& (7 : Int32))), .unset, .val (.int (4 : Int32)), .val (.ref b57)] [])) (fun t_ k_ => XS.icmpNo X59.here hx rfl (hb hby at_45) rfl (tlt (by decide : (1 : Int32) < (4 : Int32))).2.2.2 k_) ?_
      refine own_go (T59.setTop (mkF m 50 #[.val (.int p0), .val (.int p1), .val (.int p2), .val (.int p3), .val (.int p4), .val (.int (p0 &&& (7 : Int32))), .unset, .val (.int (4 : Int32)), .val (.ref b57)] [(.ref b57)])) (fun t_ k_ => XS.aload X59.here hx rfl (hb hby at_48) rfl rfl k_) ?_
      refine own_go (T59.setTop (mkF m 51 #[.val (.int p0), .val (.int p1), .val (.int p2), .val (.int p3), .val (.int p4), .val (.int (p0 &&& (7 : Int32))), .unset, .val (.int (4 : Int32)), .val (.ref b57)] [(.int (1 : Int32)), (.ref b57)])) (fun t_ k_ => XS.iconst X59.here hx rfl (hb hby at_50) k_) ?_
      refine own_go (T59.setTop (mkF m 52 #[.val (.int p0), .val (.int p1), .val (.int p2), .val (.int p3), .val (.int p4), .val (.int (p0 &&& (7 : Int32))), .unset, .val (.int (4 : Int32)), .val (.ref b57)] [(.int p2), (.int (1 : Int32)), (.ref b57)])) (fun t_ k_ => XS.iloadN X59.here hx rfl (hb hby at_51) rfl k_) ?_
      obtain ⟨_, _, ⟨T60, Lu60, ku60, nu60⟩, -, X60, ⟨Lc60, hQ60, lu60, yu60, zu60⟩, st60⟩ := Jvm.LawKit.callS X59 hx (y := (⟨"com/example/salp/salp/model/EdgeTypeOfPinLaw", "ch", "(I)C"⟩ : MethodName)) hown (mvT hZ (hw _ (List.mem_of_getElem? (i := 1) rfl))) (mvT hZ (hw _ (List.mem_of_getElem? (i := 2) rfl))) (mvT hZ (hw _ (List.mem_of_getElem? (i := 3) rfl))) (mvT hZ (hw _ (List.mem_of_getElem? (i := 4) rfl))) (by decide) (backOf (W := 2) (rm_ch l Z a0 hw [] (p2) h59 O59 ) hZ (hw _ (List.mem_of_getElem? (i := 4) rfl)) (hw _ (List.mem_of_getElem? (i := 3) rfl)) (by decide) (by decide)) (g := (mkF m 52 #[.val (.int p0), .val (.int p1), .val (.int p2), .val (.int p3), .val (.int p4), .val (.int (p0 &&& (7 : Int32))), .unset, .val (.int (4 : Int32)), .val (.ref b57)] [(.int p2), (.int (1 : Int32)), (.ref b57)])) rfl (by rw [hml]; rfl) (argsL := [(.int p2)]) (rest := [(.int (1 : Int32)), (.ref b57)]) (lenOf own_pd4 rfl) rfl (by show 2 * 0 + _ ≤ _; exact Nat.le_of_eq rfl) (hb hby at_52) (fun _ _ => ⟨rfl, e59, (by decide : 1 + 0 ≤ _), (by decide : 4 + 0 ≤ _)⟩)
      dsimp only [Pt.U, Pt.locs, Pt.cells, Pt.slots] at X60 lu60 yu60 zu60 st60 hQ60
      subst lu60 yu60 zu60
      obtain ⟨c60, rfl, N60q, hc60, e60⟩ := hQ60
      have N60 := Fr.app N59 N60q
      refine own_go (T60.setTop (mkF m 55 #[.val (.int p0), .val (.int p1), .val (.int p2), .val (.int p3), .val (.int p4), .val (.int (p0 &&& (7 : Int32))), .unset, .val (.int (4 : Int32)), .val (.ref b57)] [(.int c60), (.int (1 : Int32)), (.ref b57)])) (fun t_ k_ => st60 _ k_) ?_
      obtain ⟨cl61, Ar61, q61, Sz61, Nz61, Hz61, Gz61⟩ := V59
      have hin61 : ¬ ((1 : Int32) < 0 ∨ cl61.slots.size ≤ ((1 : Int32)).toNatClampNeg) := inb_of Sz61 ⟨by decide, by decide⟩
      obtain ⟨T61, h61, X61, e61, W61, st61⟩ := stC X60 hx hZ e60 Ar61 (j := (1 : Int32)) hin61  (g := (mkF m 55 #[.val (.int p0), .val (.int p1), .val (.int p2), .val (.int p3), .val (.int p4), .val (.int (p0 &&& (7 : Int32))), .unset, .val (.int (4 : Int32)), .val (.ref b57)] [(.int c60), (.int (1 : Int32)), (.ref b57)])) rfl rfl (hb hby at_55)
      have Fz62 := (Safe.wr W59 Sf57 R57.1 Sf57)
      have R61 := R59.trans (CHr.wr W61 Fz62 R59.1)
      have V61 : Arv Z h61 b57 k57 .char (4 : Int32) [(.int (nar .char c58)), (.int (nar .char c60)), (.int (0 : Int32)), (.int (0 : Int32))] (.int (0 : Int32)) := Arv.set Ar61 q61 Sz61 Nz61 Hz61 Gz61 (fits_nar_char _) W61 1 rfl (Nat.le_of_ble_eq_true rfl)
      have K61 : Keep h0 h61 [] := K59.wr W61 (Or.inr sz_b57)
      have N61 := Fr.snoc X61 N60 ge_b57
      have O61 := own_extW O59 W61 ge_b57
      refine own_go (T61.setTop (mkF m 56 #[.val (.int p0), .val (.int p1), .val (.int p2), .val (.int p3), .val (.int p4), .val (.int (p0 &&& (7 : Int32))), .unset, .val (.int (4 : Int32)), .val (.ref b57)] [])) (fun t_ k_ => st61 _ k_) ?_
      refine own_go (T61.setTop (mkF m 58 #[.val (.int p0), .val (.int p1), .val (.int p2), .val (.int p3), .val (.int p4), .val (.int (p0 &&& (7 : Int32))), .unset, .val (.int (4 : Int32)), .val (.ref b57)] [(.int (4 : Int32))])) (fun t_ k_ => XS.iload X61.here hx rfl (hb hby at_56) rfl k_) ?_
      refine own_go (T61.setTop (mkF m 59 #[.val (.int p0), .val (.int p1), .val (.int p2), .val (.int p3), .val (.int p4), .val (.int (p0 &&& (7 : Int32))), .unset, .val (.int (4 : Int32)), .val (.ref b57)] [(.int (2 : Int32)), (.int (4 : Int32))])) (fun t_ k_ => XS.iconst X61.here hx rfl (hb hby at_58) k_) ?_
      refine own_go (T61.setTop (mkF m 62 #[.val (.int p0), .val (.int p1), .val (.int p2), .val (.int p3), .val (.int p4), .val (.int (p0 &&& (7 : Int32))), .unset, .val (.int (4 : Int32)), .val (.ref b57)] [])) (fun t_ k_ => XS.icmpNo X61.here hx rfl (hb hby at_59) rfl (tlt (by decide : (2 : Int32) < (4 : Int32))).2.2.2 k_) ?_
      refine own_go (T61.setTop (mkF m 64 #[.val (.int p0), .val (.int p1), .val (.int p2), .val (.int p3), .val (.int p4), .val (.int (p0 &&& (7 : Int32))), .unset, .val (.int (4 : Int32)), .val (.ref b57)] [(.ref b57)])) (fun t_ k_ => XS.aload X61.here hx rfl (hb hby at_62) rfl rfl k_) ?_
      refine own_go (T61.setTop (mkF m 65 #[.val (.int p0), .val (.int p1), .val (.int p2), .val (.int p3), .val (.int p4), .val (.int (p0 &&& (7 : Int32))), .unset, .val (.int (4 : Int32)), .val (.ref b57)] [(.int (2 : Int32)), (.ref b57)])) (fun t_ k_ => XS.iconst X61.here hx rfl (hb hby at_64) k_) ?_
      refine own_go (T61.setTop (mkF m 66 #[.val (.int p0), .val (.int p1), .val (.int p2), .val (.int p3), .val (.int p4), .val (.int (p0 &&& (7 : Int32))), .unset, .val (.int (4 : Int32)), .val (.ref b57)] [(.int p3), (.int (2 : Int32)), (.ref b57)])) (fun t_ k_ => XS.iloadN X61.here hx rfl (hb hby at_65) rfl k_) ?_
      obtain ⟨_, _, ⟨T63, Lu63, ku63, nu63⟩, -, X63, ⟨Lc63, hQ63, lu63, yu63, zu63⟩, st63⟩ := Jvm.LawKit.callS X61 hx (y := (⟨"com/example/salp/salp/model/EdgeTypeOfPinLaw", "ch", "(I)C"⟩ : MethodName)) hown (mvT hZ (hw _ (List.mem_of_getElem? (i := 1) rfl))) (mvT hZ (hw _ (List.mem_of_getElem? (i := 2) rfl))) (mvT hZ (hw _ (List.mem_of_getElem? (i := 3) rfl))) (mvT hZ (hw _ (List.mem_of_getElem? (i := 4) rfl))) (by decide) (backOf (W := 2) (rm_ch l Z a0 hw [] (p3) h61 O61 ) hZ (hw _ (List.mem_of_getElem? (i := 4) rfl)) (hw _ (List.mem_of_getElem? (i := 3) rfl)) (by decide) (by decide)) (g := (mkF m 66 #[.val (.int p0), .val (.int p1), .val (.int p2), .val (.int p3), .val (.int p4), .val (.int (p0 &&& (7 : Int32))), .unset, .val (.int (4 : Int32)), .val (.ref b57)] [(.int p3), (.int (2 : Int32)), (.ref b57)])) rfl (by rw [hml]; rfl) (argsL := [(.int p3)]) (rest := [(.int (2 : Int32)), (.ref b57)]) (lenOf own_pd4 rfl) rfl (by show 2 * 0 + _ ≤ _; exact Nat.le_of_eq rfl) (hb hby at_66) (fun _ _ => ⟨rfl, e61, (by decide : 1 + 0 ≤ _), (by decide : 4 + 0 ≤ _)⟩)
      dsimp only [Pt.U, Pt.locs, Pt.cells, Pt.slots] at X63 lu63 yu63 zu63 st63 hQ63
      subst lu63 yu63 zu63
      obtain ⟨c63, rfl, N63q, hc63, e63⟩ := hQ63
      have N63 := Fr.app N61 N63q
      refine own_go (T63.setTop (mkF m 69 #[.val (.int p0), .val (.int p1), .val (.int p2), .val (.int p3), .val (.int p4), .val (.int (p0 &&& (7 : Int32))), .unset, .val (.int (4 : Int32)), .val (.ref b57)] [(.int c63), (.int (2 : Int32)), (.ref b57)])) (fun t_ k_ => st63 _ k_) ?_
      obtain ⟨cl64, Ar64, q64, Sz64, Nz64, Hz64, Gz64⟩ := V61
      have hin64 : ¬ ((2 : Int32) < 0 ∨ cl64.slots.size ≤ ((2 : Int32)).toNatClampNeg) := inb_of Sz64 ⟨by decide, by decide⟩
      obtain ⟨T64, h64, X64, e64, W64, st64⟩ := stC X63 hx hZ e63 Ar64 (j := (2 : Int32)) hin64  (g := (mkF m 69 #[.val (.int p0), .val (.int p1), .val (.int p2), .val (.int p3), .val (.int p4), .val (.int (p0 &&& (7 : Int32))), .unset, .val (.int (4 : Int32)), .val (.ref b57)] [(.int c63), (.int (2 : Int32)), (.ref b57)])) rfl rfl (hb hby at_69)
      have Fz65 := (Safe.wr W61 Fz62 R59.1 Fz62)
      have R64 := R61.trans (CHr.wr W64 Fz65 R61.1)
      have V64 : Arv Z h64 b57 k57 .char (4 : Int32) [(.int (nar .char c58)), (.int (nar .char c60)), (.int (nar .char c63)), (.int (0 : Int32))] (.int (0 : Int32)) := Arv.set Ar64 q64 Sz64 Nz64 Hz64 Gz64 (fits_nar_char _) W64 2 rfl (Nat.le_of_ble_eq_true rfl)
      have K64 : Keep h0 h64 [] := K61.wr W64 (Or.inr sz_b57)
      have N64 := Fr.snoc X64 N63 ge_b57
      have O64 := own_extW O61 W64 ge_b57
      refine own_go (T64.setTop (mkF m 70 #[.val (.int p0), .val (.int p1), .val (.int p2), .val (.int p3), .val (.int p4), .val (.int (p0 &&& (7 : Int32))), .unset, .val (.int (4 : Int32)), .val (.ref b57)] [])) (fun t_ k_ => st64 _ k_) ?_
      refine own_go (T64.setTop (mkF m 72 #[.val (.int p0), .val (.int p1), .val (.int p2), .val (.int p3), .val (.int p4), .val (.int (p0 &&& (7 : Int32))), .unset, .val (.int (4 : Int32)), .val (.ref b57)] [(.int (4 : Int32))])) (fun t_ k_ => XS.iload X64.here hx rfl (hb hby at_70) rfl k_) ?_
      refine own_go (T64.setTop (mkF m 73 #[.val (.int p0), .val (.int p1), .val (.int p2), .val (.int p3), .val (.int p4), .val (.int (p0 &&& (7 : Int32))), .unset, .val (.int (4 : Int32)), .val (.ref b57)] [(.int (3 : Int32)), (.int (4 : Int32))])) (fun t_ k_ => XS.iconst X64.here hx rfl (hb hby at_72) k_) ?_
      refine own_go (T64.setTop (mkF m 76 #[.val (.int p0), .val (.int p1), .val (.int p2), .val (.int p3), .val (.int p4), .val (.int (p0 &&& (7 : Int32))), .unset, .val (.int (4 : Int32)), .val (.ref b57)] [])) (fun t_ k_ => XS.icmpNo X64.here hx rfl (hb hby at_73) rfl (tlt (by decide : (3 : Int32) < (4 : Int32))).2.2.2 k_) ?_
      refine own_go (T64.setTop (mkF m 78 #[.val (.int p0), .val (.int p1), .val (.int p2), .val (.int p3), .val (.int p4), .val (.int (p0 &&& (7 : Int32))), .unset, .val (.int (4 : Int32)), .val (.ref b57)] [(.ref b57)])) (fun t_ k_ => XS.aload X64.here hx rfl (hb hby at_76) rfl rfl k_) ?_
      refine own_go (T64.setTop (mkF m 79 #[.val (.int p0), .val (.int p1), .val (.int p2), .val (.int p3), .val (.int p4), .val (.int (p0 &&& (7 : Int32))), .unset, .val (.int (4 : Int32)), .val (.ref b57)] [(.int (3 : Int32)), (.ref b57)])) (fun t_ k_ => XS.iconst X64.here hx rfl (hb hby at_78) k_) ?_
      refine own_go (T64.setTop (mkF m 81 #[.val (.int p0), .val (.int p1), .val (.int p2), .val (.int p3), .val (.int p4), .val (.int (p0 &&& (7 : Int32))), .unset, .val (.int (4 : Int32)), .val (.ref b57)] [(.int p4), (.int (3 : Int32)), (.ref b57)])) (fun t_ k_ => XS.iload X64.here hx rfl (hb hby at_79) rfl k_) ?_
      obtain ⟨_, _, ⟨T66, Lu66, ku66, nu66⟩, -, X66, ⟨Lc66, hQ66, lu66, yu66, zu66⟩, st66⟩ := Jvm.LawKit.callS X64 hx (y := (⟨"com/example/salp/salp/model/EdgeTypeOfPinLaw", "ch", "(I)C"⟩ : MethodName)) hown (mvT hZ (hw _ (List.mem_of_getElem? (i := 1) rfl))) (mvT hZ (hw _ (List.mem_of_getElem? (i := 2) rfl))) (mvT hZ (hw _ (List.mem_of_getElem? (i := 3) rfl))) (mvT hZ (hw _ (List.mem_of_getElem? (i := 4) rfl))) (by decide) (backOf (W := 2) (rm_ch l Z a0 hw [] (p4) h64 O64 ) hZ (hw _ (List.mem_of_getElem? (i := 4) rfl)) (hw _ (List.mem_of_getElem? (i := 3) rfl)) (by decide) (by decide)) (g := (mkF m 81 #[.val (.int p0), .val (.int p1), .val (.int p2), .val (.int p3), .val (.int p4), .val (.int (p0 &&& (7 : Int32))), .unset, .val (.int (4 : Int32)), .val (.ref b57)] [(.int p4), (.int (3 : Int32)), (.ref b57)])) rfl (by rw [hml]; rfl) (argsL := [(.int p4)]) (rest := [(.int (3 : Int32)), (.ref b57)]) (lenOf own_pd4 rfl) rfl (by show 2 * 0 + _ ≤ _; exact Nat.le_of_eq rfl) (hb hby at_81) (fun _ _ => ⟨rfl, e64, (by decide : 1 + 0 ≤ _), (by decide : 4 + 0 ≤ _)⟩)
      dsimp only [Pt.U, Pt.locs, Pt.cells, Pt.slots] at X66 lu66 yu66 zu66 st66 hQ66
      subst lu66 yu66 zu66
      obtain ⟨c66, rfl, N66q, hc66, e66⟩ := hQ66
      have N66 := Fr.app N64 N66q
      refine own_go (T66.setTop (mkF m 84 #[.val (.int p0), .val (.int p1), .val (.int p2), .val (.int p3), .val (.int p4), .val (.int (p0 &&& (7 : Int32))), .unset, .val (.int (4 : Int32)), .val (.ref b57)] [(.int c66), (.int (3 : Int32)), (.ref b57)])) (fun t_ k_ => st66 _ k_) ?_
      obtain ⟨cl67, Ar67, q67, Sz67, Nz67, Hz67, Gz67⟩ := V64
      have hin67 : ¬ ((3 : Int32) < 0 ∨ cl67.slots.size ≤ ((3 : Int32)).toNatClampNeg) := inb_of Sz67 ⟨by decide, by decide⟩
      obtain ⟨T67, h67, X67, e67, W67, st67⟩ := stC X66 hx hZ e66 Ar67 (j := (3 : Int32)) hin67  (g := (mkF m 84 #[.val (.int p0), .val (.int p1), .val (.int p2), .val (.int p3), .val (.int p4), .val (.int (p0 &&& (7 : Int32))), .unset, .val (.int (4 : Int32)), .val (.ref b57)] [(.int c66), (.int (3 : Int32)), (.ref b57)])) rfl rfl (hb hby at_84)
      have Fz68 := (Safe.wr W64 Fz65 R61.1 Fz65)
      have R67 := R64.trans (CHr.wr W67 Fz68 R64.1)
      have V67 : Arv Z h67 b57 k57 .char (4 : Int32) [(.int (nar .char c58)), (.int (nar .char c60)), (.int (nar .char c63)), (.int (nar .char c66))] (.int (0 : Int32)) := Arv.set Ar67 q67 Sz67 Nz67 Hz67 Gz67 (fits_nar_char _) W67 3 rfl (Nat.le_of_ble_eq_true rfl)
      have K67 : Keep h0 h67 [] := K64.wr W67 (Or.inr sz_b57)
      have N67 := Fr.snoc X67 N66 ge_b57
      have O67 := own_extW O64 W67 ge_b57
      refine own_go (T67.setTop (mkF m 85 #[.val (.int p0), .val (.int p1), .val (.int p2), .val (.int p3), .val (.int p4), .val (.int (p0 &&& (7 : Int32))), .unset, .val (.int (4 : Int32)), .val (.ref b57)] [])) (fun t_ k_ => st67 _ k_) ?_
      obtain ⟨T69, h69, X69, e69, E69, A69, D69, U69, st69⟩ := newO X67 hx hZ hown (hw _ (List.mem_of_getElem? (i := 6) rfl)) (hw _ (List.mem_of_getElem? (i := 7) rfl)) (hw _ (List.mem_of_getElem? (i := 8) rfl)) e67 (g := (mkF m 85 #[.val (.int p0), .val (.int p1), .val (.int p2), .val (.int p3), .val (.int p4), .val (.int (p0 &&& (7 : Int32))), .unset, .val (.int (4 : Int32)), .val (.ref b57)] [])) rfl (hb hby at_85) (by decide) (by decide)
      obtain ⟨b69, g69⟩ : ∃ z, z = h67.size := ⟨_, rfl⟩
      rw [← g69] at A69 D69 U69 st69
      have ge_b69 : Z.heap.size ≤ b69 := Nat.le_trans O67.1 (Nat.le_of_eq g69.symm)
      have sz_b69 : h0.size ≤ b69 := Nat.le_trans K67.1 (Nat.le_of_eq g69.symm)
      have R69 := R67.trans (CHr.ext E69 R67.1)
      have Sf69 := Safe.ext (x := b69) E69 R67.1 (Safe.new (Nat.le_of_eq g69.symm))
      have K69 : Keep h0 h69 [] := K67.ext E69
      have O69 := own_ext O67 E69
      have Fcoder_69 : Fld Z h69 b69 "java/lang/String" "coder" "B" (.int (0 : Int32)) := D69 (Or.inr (hw _ (List.mem_of_getElem? (i := 32) rfl))) (ty := .byte) (by decide)
      have Fvalue_69 : Fld Z h69 b69 "java/lang/String" "value" "[B" .null := D69 (Or.inr (hw _ (List.mem_of_getElem? (i := 34) rfl))) (ty := (.array .byte)) (by decide)
      refine own_go (T69.setTop (mkF m 88 #[.val (.int p0), .val (.int p1), .val (.int p2), .val (.int p3), .val (.int p4), .val (.int (p0 &&& (7 : Int32))), .unset, .val (.int (4 : Int32)), .val (.ref b57)] [(.ref b69)])) (fun t_ k_ => st69 _ k_) ?_
      refine own_go (T69.setTop (mkF m 89 #[.val (.int p0), .val (.int p1), .val (.int p2), .val (.int p3), .val (.int p4), .val (.int (p0 &&& (7 : Int32))), .unset, .val (.int (4 : Int32)), .val (.ref b57)] [(.ref b69), (.ref b69)])) (fun t_ k_ => XS.dup X69.here hx rfl (hb hby at_88) rfl rfl k_) ?_
      refine own_go (T69.setTop (mkF m 91 #[.val (.int p0), .val (.int p1), .val (.int p2), .val (.int p3), .val (.int p4), .val (.int (p0 &&& (7 : Int32))), .unset, .val (.int (4 : Int32)), .val (.ref b57)] [(.ref b57), (.ref b69), (.ref b69)])) (fun t_ k_ => XS.aload X69.here hx rfl (hb hby at_89) rfl rfl k_) ?_
      have hp70 : ∀ c ∈ ([(nar .char c58), (nar .char c60), (nar .char c63), (nar .char c66)] : List Int32), ¬ c < 0 ∧ ¬ (255 : Int32) < c := (own_allS (own_okb _ (own_narok _ hc58)) (own_allS (own_okb _ (own_narok _ hc60)) (own_allS (own_okb _ (own_narok _ hc63)) (own_allS (own_okb _ (own_narok _ hc66)) own_all0))))
      have Fz71 := (V67.ext E69)
      obtain ⟨_, _, ⟨T72, Lu72, ku72, nu72⟩, -, X72, ⟨Lc72, hQ72, lu72, yu72, zu72⟩, st72⟩ := X69.specialBack hx (y := (⟨"java/lang/String", "<init>", "([C)V"⟩ : MethodName)) rfl hown (mvT hZ (hw _ (List.mem_of_getElem? (i := 9) rfl))) (mvT hZ (hw _ (List.mem_of_getElem? (i := 10) rfl))) (mvT hZ (hw _ (List.mem_of_getElem? (i := 11) rfl))) (by decide) (StrChars.Road.backV (W := 1) hZ (fun d hd => hw d (own_words d hd)) (kI := 4) (hw _ (List.mem_of_getElem? (i := 7) rfl)) (cs := ([(nar .char c58), (nar .char c60), (nar .char c63), (nar .char c66)] : List Int32)) (bs := (([(nar .char c58), (nar .char c60), (nar .char c63), (nar .char c66)] : List Int32)).map (fun c => c.toInt8.toInt32)) (n := 4) (n0 := Z.heap.size) ge_b69 (O69.1) A69 Fvalue_69 Fcoder_69 Fz71 (S_CS.ext O69) n_CS rfl rfl (by decide) (by decide) hp70 rfl (by decide) (by decide)) (g := (mkF m 91 #[.val (.int p0), .val (.int p1), .val (.int p2), .val (.int p3), .val (.int p4), .val (.int (p0 &&& (7 : Int32))), .unset, .val (.int (4 : Int32)), .val (.ref b57)] [(.ref b57), (.ref b69), (.ref b69)])) rfl (by rw [hml]; rfl) (Steps.refl _) (a := b69) (argsL := [(.ref b57)]) (rest := [(.ref b69)]) (lenOf own_pd8 rfl) rfl (by show 2 * 0 + _ ≤ _; exact Nat.le_of_eq rfl) (hb hby at_91) (fun _ _ => ⟨rfl, e69, (by decide : 2 + 1 ≤ _), (by decide : 8 + 4 ≤ _)⟩)
      dsimp only [Pt.U, Pt.locs, Pt.cells, Pt.slots] at X72 lu72 yu72 zu72 st72 hQ72
      subst lu72 yu72 zu72
      obtain ⟨rfl, N72q, K72q, X72q, C72q, t72, kb72, u1_72, u2_72, u3_72, V72q, A72q⟩ := hQ72
      have N72 := Fr.app N67 N72q
      have O72 := own_extK O69 K72q (allS ge_b69 all0)
      have KK72 : Keep h0 T72.heap [] := K69.trans K72q (allS (Or.inr sz_b69) all0)
      have R72 := R69.trans (CHr.keep K72q (allS Sf69 all0) R69.1)
      refine own_go (T72.setTop (mkF m 94 #[.val (.int p0), .val (.int p1), .val (.int p2), .val (.int p3), .val (.int p4), .val (.int (p0 &&& (7 : Int32))), .unset, .val (.int (4 : Int32)), .val (.ref b57)] [(.ref b69)])) (fun t_ k_ => st72.trans k_) ?_
      refine own_go (T72.setTop (mkF m 96 #[.val (.int p0), .val (.int p1), .val (.int p2), .val (.int p3), .val (.int p4), .val (.int (p0 &&& (7 : Int32))), .val (.ref b69), .val (.int (4 : Int32)), .val (.ref b57)] [])) (fun t_ k_ => XS.astore X72.here hx rfl (hb hby at_94) rfl rfl (l' := #[.val (.int p0), .val (.int p1), .val (.int p2), .val (.int p3), .val (.int p4), .val (.int (p0 &&& (7 : Int32))), .val (.ref b69), .val (.int (4 : Int32)), .val (.ref b57)]) rfl k_) ?_
      refine own_go (T72.setTop (mkF m 98 #[.val (.int p0), .val (.int p1), .val (.int p2), .val (.int p3), .val (.int p4), .val (.int (p0 &&& (7 : Int32))), .val (.ref b69), .val (.int (4 : Int32)), .val (.ref b57)] [(.ref b69)])) (fun t_ k_ => XS.aload X72.here hx rfl (hb hby at_96) rfl rfl k_) ?_
      obtain ⟨_, _, ⟨T73, Lu73, ku73, nu73⟩, -, X73, hS73, hg73, ⟨Lc73, hQ73, lu73, yu73, zu73⟩, st73⟩ := callSS X72 hx (y := (⟨"com/example/salp/salp/model/EdgeType", "of", "(Ljava/lang/String;)Lcom/example/salp/salp/model/EdgeType;"⟩ : MethodName)) hown (mvT hZ (hw _ (List.mem_of_getElem? (i := 35) rfl))) (mvT hZ (hw _ (List.mem_of_getElem? (i := 36) rfl))) (mvT hZ (hw _ (List.mem_of_getElem? (i := 37) rfl))) (mvT hZ (hw _ (List.mem_of_getElem? (i := 38) rfl))) (by decide) (backOfS (W := 0) (rm_of l Z a0 hw [] (b69) (t72) (kb72) (([(nar .char c58), (nar .char c60), (nar .char c63), (nar .char c66)] : List Int32)) (cs0) (sf0) T72.heap O72 w X72q V72q C72q A72q (own_okAS (own_narok _ hc58) (own_okAS (own_narok _ hc60) (own_okAS (own_narok _ hc63) (own_okAS (own_narok _ hc66) own_okA0)))) (Nat.le_of_ble_eq_true rfl) (Nat.le_of_ble_eq_true rfl)) hZ (hw _ (List.mem_of_getElem? (i := 38) rfl)) (hw _ (List.mem_of_getElem? (i := 37) rfl)) (by decide) (by decide)) (g := (mkF m 98 #[.val (.int p0), .val (.int p1), .val (.int p2), .val (.int p3), .val (.int p4), .val (.int (p0 &&& (7 : Int32))), .val (.ref b69), .val (.int (4 : Int32)), .val (.ref b57)] [(.ref b69)])) rfl (by rw [hml]; rfl) (argsL := [(.ref b69)]) (rest := []) (lenOf own_pd5 rfl) rfl (by show 2 * 0 + _ ≤ _; exact Nat.le_of_eq rfl) (hb hby at_98) (fun _ _ => ⟨rfl, rfl, (by decide : 3 + 3 ≤ _), (by decide : 12 + 21 ≤ _)⟩)
      dsimp only [Pt.U, Pt.locs, Pt.cells, Pt.slots] at X73 lu73 yu73 zu73 st73 hQ73 hS73 hg73
      subst lu73 yu73 zu73
      obtain ⟨X73, hS, hZ, hown⟩ := rebS hS (by rw [show T72.heap = T72.heap from rfl]; exact (Nat.le_trans (Nat.le_trans (Nat.le_trans (Nat.le_trans (Nat.le_trans (Nat.le_trans (Nat.le_trans hk E57.1) (Keep.of_wr W59).1) (Keep.of_wr W61).1) (Keep.of_wr W64).1) (Keep.of_wr W67).1) E69.1) K72q.1)) X73 hS73 hg73 hZ hown
      obtain ⟨r73, rfl, N73q, K73q, X73q, F73q⟩ := hQ73
      have N73 := Fr.app N72 N73q
      have O73 := own_extK O72 K73q all0
      have KK73 : Keep h0 T73.heap [] := KK72.trans K73q all0
      refine own_go (T73.setTop (mkF m 101 #[.val (.int p0), .val (.int p1), .val (.int p2), .val (.int p3), .val (.int p4), .val (.int (p0 &&& (7 : Int32))), .val (.ref b69), .val (.int (4 : Int32)), .val (.ref b57)] [(.ref r73)])) (fun t_ k_ => st73.trans k_) ?_
      refine own_go (T73.setTop (mkF m 103 #[.val (.int p0), .val (.int p1), .val (.int p2), .val (.int p3), .val (.int p4), .val (.int (p0 &&& (7 : Int32))), .val (.ref b69), .val (.ref r73), .val (.ref b57)] [])) (fun t_ k_ => XS.astore X73.here hx rfl (hb hby at_101) rfl rfl (l' := #[.val (.int p0), .val (.int p1), .val (.int p2), .val (.int p3), .val (.int p4), .val (.int (p0 &&& (7 : Int32))), .val (.ref b69), .val (.ref r73), .val (.ref b57)]) rfl k_) ?_
      refine own_go (T73.setTop (mkF m 105 #[.val (.int p0), .val (.int p1), .val (.int p2), .val (.int p3), .val (.int p4), .val (.int (p0 &&& (7 : Int32))), .val (.ref b69), .val (.ref r73), .val (.ref b57)] [(.ref r73)])) (fun t_ k_ => XS.aload X73.here hx rfl (hb hby at_103) rfl rfl k_) ?_
      obtain ⟨cq74, kq74, q74a, q74b, q74c⟩ := isOf hZ rfl X73q
      obtain ⟨_, _, ⟨T74, Lu74, ku74, nu74⟩, -, X74, ⟨Lc74, hQ74, lu74, yu74, zu74⟩, st74⟩ := X73.virtualBack hx (y := (⟨"com/example/salp/salp/model/EdgeType", "name", "()Ljava/lang/String;"⟩ : MethodName)) (z := (⟨"com/example/salp/salp/model/EdgeType", "name", "()Ljava/lang/String;"⟩ : MethodName)) hown (mvT hZ (hw _ (List.mem_of_getElem? (i := 91) rfl))) (mvT hZ (hw _ (List.mem_of_getElem? (i := 92) rfl))) (notFace_of_selects (args := #[]) (mvT hZ (hw _ (List.mem_of_getElem? (i := 94) rfl)))) (mvT hZ (hw _ (List.mem_of_getElem? (i := 94) rfl))) (mvT hZ (hw _ (List.mem_of_getElem? (i := 93) rfl))) (by decide) (backOf (W := 0) (rm_gn l Z a0 hw [] (r73) (b69) T73.heap O73 F73q) hZ (hw _ (List.mem_of_getElem? (i := 95) rfl)) (hw _ (List.mem_of_getElem? (i := 37) rfl)) (by decide) (by decide)) q74a q74c (g := (mkF m 105 #[.val (.int p0), .val (.int p1), .val (.int p2), .val (.int p3), .val (.int p4), .val (.int (p0 &&& (7 : Int32))), .val (.ref b69), .val (.ref r73), .val (.ref b57)] [(.ref r73)])) rfl (by rw [hml]; rfl) (Steps.refl _) (argsL := []) (rest := []) (lenOf own_pd6 rfl) rfl (by show 2 * 0 + _ ≤ _; exact Nat.le_of_eq rfl) (hb hby at_105) (fun _ _ => ⟨rfl, rfl, (by decide : 6 + 0 ≤ _), (by decide : 33 + 0 ≤ _)⟩)
      dsimp only [Pt.U, Pt.locs, Pt.cells, Pt.slots] at X74 lu74 yu74 zu74 st74 hQ74
      subst lu74 yu74 zu74
      obtain ⟨rfl, N74q, e74⟩ := hQ74
      have N74 := Fr.app N73 N74q
      refine own_go (T74.setTop (mkF m 108 #[.val (.int p0), .val (.int p1), .val (.int p2), .val (.int p3), .val (.int p4), .val (.int (p0 &&& (7 : Int32))), .val (.ref b69), .val (.ref r73), .val (.ref b57)] [(.ref b69)])) (fun t_ k_ => st74.trans k_) ?_
      refine own_go (T74.setTop (mkF m 110 #[.val (.int p0), .val (.int p1), .val (.int p2), .val (.int p3), .val (.int p4), .val (.int (p0 &&& (7 : Int32))), .val (.ref b69), .val (.ref r73), .val (.ref b57)] [(.ref b69), (.ref b69)])) (fun t_ k_ => XS.aload X74.here hx rfl (hb hby at_108) rfl rfl k_) ?_
      have Fz76 := (X72q.keep K73q)
      obtain ⟨cq75, kq75, q75a, q75b, q75c⟩ := isOf hZ e74 Fz76
      obtain ⟨_, _, ⟨T75, Lu75, ku75, nu75⟩, -, X75, ⟨Lc75, hQ75, lu75, yu75, zu75⟩, st75⟩ := X74.virtualBack hx (y := (⟨"java/lang/String", "equals", "(Ljava/lang/Object;)Z"⟩ : MethodName)) (z := (⟨"java/lang/String", "equals", "(Ljava/lang/Object;)Z"⟩ : MethodName)) hown (mvT hZ (hw _ (List.mem_of_getElem? (i := 96) rfl))) (mvT hZ (hw _ (List.mem_of_getElem? (i := 97) rfl))) (notFace_of_selects (args := #[]) (mvT hZ (hw _ (List.mem_of_getElem? (i := 99) rfl)))) (mvT hZ (hw _ (List.mem_of_getElem? (i := 99) rfl))) (mvT hZ (hw _ (List.mem_of_getElem? (i := 98) rfl))) (by decide) (backOf (W := 0) (rm_eqs l Z a0 hw [] (b69) T73.heap O73 ) hZ (hw _ (List.mem_of_getElem? (i := 100) rfl)) (hw _ (List.mem_of_getElem? (i := 8) rfl)) (by decide) (by decide)) q75a q75c (g := (mkF m 110 #[.val (.int p0), .val (.int p1), .val (.int p2), .val (.int p3), .val (.int p4), .val (.int (p0 &&& (7 : Int32))), .val (.ref b69), .val (.ref r73), .val (.ref b57)] [(.ref b69), (.ref b69)])) rfl (by rw [hml]; rfl) (Steps.refl _) (argsL := [(.ref b69)]) (rest := []) (lenOf own_pd7 rfl) rfl (by show 2 * 0 + _ ≤ _; exact Nat.le_of_eq rfl) (hb hby at_110) (fun _ _ => ⟨rfl, e74, (by decide : 6 + 0 ≤ _), (by decide : 33 + 0 ≤ _)⟩)
      dsimp only [Pt.U, Pt.locs, Pt.cells, Pt.slots] at X75 lu75 yu75 zu75 st75 hQ75
      subst lu75 yu75 zu75
      obtain ⟨rfl, N75q, e75⟩ := hQ75
      have N75 := Fr.app N74 N75q
      refine own_go (T75.setTop (mkF m 113 #[.val (.int p0), .val (.int p1), .val (.int p2), .val (.int p3), .val (.int p4), .val (.int (p0 &&& (7 : Int32))), .val (.ref b69), .val (.ref r73), .val (.ref b57)] [(.int (1 : Int32))])) (fun t_ k_ => st75.trans k_) ?_
      refine own_go (T75.setTop (mkF m 116 #[.val (.int p0), .val (.int p1), .val (.int p2), .val (.int p3), .val (.int p4), .val (.int (p0 &&& (7 : Int32))), .val (.ref b69), .val (.ref r73), .val (.ref b57)] [])) (fun t_ k_ => XS.ifNo X75.here hx rfl (hb hby at_113) rfl ((if0 _ _).trans (feq (by decide : ¬ ((1 : Int32) = (0 : Int32)))).1) k_) ?_
      refine own_go (T75.setTop (mkF m 118 #[.val (.int p0), .val (.int p1), .val (.int p2), .val (.int p3), .val (.int p4), .val (.int (p0 &&& (7 : Int32))), .val (.ref b69), .val (.ref r73), .val (.ref b57)] [(.ref r73)])) (fun t_ k_ => XS.aload X75.here hx rfl (hb hby at_116) rfl rfl k_) ?_
      obtain ⟨cq77, kq77, q77a, q77b, q77c⟩ := isOf hZ e75 X73q
      obtain ⟨_, _, ⟨T77, Lu77, ku77, nu77⟩, -, X77, ⟨Lc77, hQ77, lu77, yu77, zu77⟩, st77⟩ := X75.virtualBack hx (y := (⟨"com/example/salp/salp/model/EdgeType", "toString", "()Ljava/lang/String;"⟩ : MethodName)) (z := (⟨"com/example/salp/salp/model/EdgeType", "toString", "()Ljava/lang/String;"⟩ : MethodName)) hown (mvT hZ (hw _ (List.mem_of_getElem? (i := 101) rfl))) (mvT hZ (hw _ (List.mem_of_getElem? (i := 102) rfl))) (notFace_of_selects (args := #[]) (mvT hZ (hw _ (List.mem_of_getElem? (i := 104) rfl)))) (mvT hZ (hw _ (List.mem_of_getElem? (i := 104) rfl))) (mvT hZ (hw _ (List.mem_of_getElem? (i := 103) rfl))) (by decide) (backOf (W := 0) (rm_gt l Z a0 hw [] (r73) (b69) T73.heap O73 F73q) hZ (hw _ (List.mem_of_getElem? (i := 105) rfl)) (hw _ (List.mem_of_getElem? (i := 37) rfl)) (by decide) (by decide)) q77a q77c (g := (mkF m 118 #[.val (.int p0), .val (.int p1), .val (.int p2), .val (.int p3), .val (.int p4), .val (.int (p0 &&& (7 : Int32))), .val (.ref b69), .val (.ref r73), .val (.ref b57)] [(.ref r73)])) rfl (by rw [hml]; rfl) (Steps.refl _) (argsL := []) (rest := []) (lenOf own_pd6 rfl) rfl (by show 2 * 0 + _ ≤ _; exact Nat.le_of_eq rfl) (hb hby at_118) (fun _ _ => ⟨rfl, e75, (by decide : 6 + 0 ≤ _), (by decide : 33 + 0 ≤ _)⟩)
      dsimp only [Pt.U, Pt.locs, Pt.cells, Pt.slots] at X77 lu77 yu77 zu77 st77 hQ77
      subst lu77 yu77 zu77
      obtain ⟨rfl, N77q, e77⟩ := hQ77
      have N77 := Fr.app N75 N77q
      refine own_go (T77.setTop (mkF m 121 #[.val (.int p0), .val (.int p1), .val (.int p2), .val (.int p3), .val (.int p4), .val (.int (p0 &&& (7 : Int32))), .val (.ref b69), .val (.ref r73), .val (.ref b57)] [(.ref b69)])) (fun t_ k_ => st77.trans k_) ?_
      refine own_go (T77.setTop (mkF m 123 #[.val (.int p0), .val (.int p1), .val (.int p2), .val (.int p3), .val (.int p4), .val (.int (p0 &&& (7 : Int32))), .val (.ref b69), .val (.ref r73), .val (.ref b57)] [(.ref b69), (.ref b69)])) (fun t_ k_ => XS.aload X77.here hx rfl (hb hby at_121) rfl rfl k_) ?_
      obtain ⟨cq78, kq78, q78a, q78b, q78c⟩ := isOf hZ e77 Fz76
      obtain ⟨_, _, ⟨T78, Lu78, ku78, nu78⟩, -, X78, ⟨Lc78, hQ78, lu78, yu78, zu78⟩, st78⟩ := X77.virtualBack hx (y := (⟨"java/lang/String", "equals", "(Ljava/lang/Object;)Z"⟩ : MethodName)) (z := (⟨"java/lang/String", "equals", "(Ljava/lang/Object;)Z"⟩ : MethodName)) hown (mvT hZ (hw _ (List.mem_of_getElem? (i := 96) rfl))) (mvT hZ (hw _ (List.mem_of_getElem? (i := 97) rfl))) (notFace_of_selects (args := #[]) (mvT hZ (hw _ (List.mem_of_getElem? (i := 99) rfl)))) (mvT hZ (hw _ (List.mem_of_getElem? (i := 99) rfl))) (mvT hZ (hw _ (List.mem_of_getElem? (i := 98) rfl))) (by decide) (backOf (W := 0) (rm_eqs l Z a0 hw [] (b69) T73.heap O73 ) hZ (hw _ (List.mem_of_getElem? (i := 100) rfl)) (hw _ (List.mem_of_getElem? (i := 8) rfl)) (by decide) (by decide)) q78a q78c (g := (mkF m 123 #[.val (.int p0), .val (.int p1), .val (.int p2), .val (.int p3), .val (.int p4), .val (.int (p0 &&& (7 : Int32))), .val (.ref b69), .val (.ref r73), .val (.ref b57)] [(.ref b69), (.ref b69)])) rfl (by rw [hml]; rfl) (Steps.refl _) (argsL := [(.ref b69)]) (rest := []) (lenOf own_pd7 rfl) rfl (by show 2 * 0 + _ ≤ _; exact Nat.le_of_eq rfl) (hb hby at_123) (fun _ _ => ⟨rfl, e77, (by decide : 6 + 0 ≤ _), (by decide : 33 + 0 ≤ _)⟩)
      dsimp only [Pt.U, Pt.locs, Pt.cells, Pt.slots] at X78 lu78 yu78 zu78 st78 hQ78
      subst lu78 yu78 zu78
      obtain ⟨rfl, N78q, e78⟩ := hQ78
      have N78 := Fr.app N77 N78q
      refine own_go (T78.setTop (mkF m 126 #[.val (.int p0), .val (.int p1), .val (.int p2), .val (.int p3), .val (.int p4), .val (.int (p0 &&& (7 : Int32))), .val (.ref b69), .val (.ref r73), .val (.ref b57)] [(.int (1 : Int32))])) (fun t_ k_ => st78.trans k_) ?_
      refine own_go (T78.setTop (mkF m 129 #[.val (.int p0), .val (.int p1), .val (.int p2), .val (.int p3), .val (.int p4), .val (.int (p0 &&& (7 : Int32))), .val (.ref b69), .val (.ref r73), .val (.ref b57)] [])) (fun t_ k_ => XS.ifNo X78.here hx rfl (hb hby at_126) rfl ((if0 _ _).trans (feq (by decide : ¬ ((1 : Int32) = (0 : Int32)))).1) k_) ?_
      refine own_go (T78.setTop (mkF m 130 #[.val (.int p0), .val (.int p1), .val (.int p2), .val (.int p3), .val (.int p4), .val (.int (p0 &&& (7 : Int32))), .val (.ref b69), .val (.ref r73), .val (.ref b57)] [(.int (1 : Int32))])) (fun t_ k_ => XS.iconst X78.here hx rfl (hb hby at_129) k_) ?_
      refine own_go (T78.setTop (mkF m 134 #[.val (.int p0), .val (.int p1), .val (.int p2), .val (.int p3), .val (.int p4), .val (.int (p0 &&& (7 : Int32))), .val (.ref b69), .val (.ref r73), .val (.ref b57)] [(.int (1 : Int32))])) (fun t_ k_ => XS.goto X78.here hx rfl (pc0 := 130) (pc' := 134) rfl (hb hby at_130) (by decide) (by decide) k_) ?_
      obtain ⟨fs, hr, hrun, hended, hRW⟩ := X78.leaveW hS (by rw [show T78.heap = T73.heap from e78]; exact (Nat.le_refl _)) (v := some (.int (nar .boolean (1 : Int32)))) (fun h => by rw [Bd.returns] at h; cases h)
      refine ⟨_, _, retN X78 hx (t := .boolean) Bd.returns (by simp) (hb hby at_134) hr, hrun, hended, _, _, rfl, ?_, hRW.1, hRW.2.1, hRW.2.2.1, hRW.2.2.2.mono (by decide) (by decide)⟩
      show Q_law Z p0 p1 p2 p3 p4 cs0 sf0 h0 _ T78.heap _
      exact ⟨rfl, N78, trivial⟩
set_option maxRecDepth 65536 in
set_option maxHeartbeats 40000000 in
theorem comes_1 {Post : Tables → Env → Array Value → State → Outcome → State → Prop} (hpost : ∀ tb e args s v u, (limb_1_1.after args s (.returned v) u = true ∧ limb_1_2.after args s (.returned v) u = true ∧ True) → ReturnedEndW s (.returned v) u (Jvm.fieldLocs frame_1_writes args s ++ Jvm.arrayLocs frame_1_arrays args s ++ Jvm.staticLocs frame_1_statics s) 24 2176 → Post tb e args s (.returned v) u) :
    ArmFor flags0 classFile x code maxLocals ret World_1 tables_1 room_1 Calls_1 rest_1 Pre_1 Post := by
  intro l hfl _ _ p e ha hc hk s m args below hf hA hF happ hP
  obtain ⟨hcalls, hrest, hpre⟩ := hP
  obtain ⟨-, -, -, hnamed, -, -, -, hat⟩ := (Spec.applies_iff hf).mp happ
  obtain ⟨hg, hn⟩ := and_e (Cond.before_iff.mp (show (Jvm.Cond.and given_1 narrow_1).before args s = true from hpre))
  obtain ⟨g1, g2⟩ := and_e hg
  obtain ⟨g3, g4⟩ := and_e g2
  obtain ⟨g5, g6⟩ := and_e g4
  obtain ⟨g7, g8⟩ := and_e g6
  obtain ⟨g9, g10⟩ := and_e g8
  obtain ⟨w0, w1, w2, w3, w4, rfl⟩ : ∃ w0 w1 w2 w3 w4 : Value, args = #[w0, w1, w2, w3, w4] := by
    have hs : args.size = 5 := by simpa [Cond.value, given_1] using g1
    obtain ⟨L⟩ := args
    match L, hs with
    | [w0, w1, w2, w3, w4], _ => exact ⟨w0, w1, w2, w3, w4, rfl⟩
  have hw := fun d (hd : d ∈ tables_1) => atoms_spec (ws := Jvm.Cond.code x code maxLocals ret :: tables_1) hat d (List.mem_cons_of_mem _ hd)
  have hfit : Fit s := fun {y c} hc i hi => by
    obtain ⟨ha, rfl⟩ := Array.getElem?_eq_some_iff.mp hc
    have q := List.all_eq_true.mp ((Array.all_eq_true_iff_forall_mem.mp hF) _ (Array.getElem_mem ha)) i (List.mem_range.mpr hi)
    simpa [Array.getElem?_eq_getElem hi] using q
  obtain ⟨hsets, hown0⟩ := atoms_of _ (rest_1_c_eq ▸ (show rest_1_c.before _ s = true from hrest))
  have hr0 := Cond.before_iff.mp hown0
  obtain ⟨i0, ei0⟩ := is_v g3
  obtain rfl : w0 = (.int i0) := Option.some.inj ei0
  obtain ⟨i1, ei1⟩ := is_v g5
  obtain rfl : w1 = (.int i1) := Option.some.inj ei1
  obtain ⟨i2, ei2⟩ := is_v g7
  obtain rfl : w2 = (.int i2) := Option.some.inj ei2
  obtain ⟨i3, ei3⟩ := is_v g9
  obtain rfl : w3 = (.int i3) := Option.some.inj ei3
  obtain ⟨i4, ei4⟩ := is_v g10
  obtain rfl : w4 = (.int i4) := Option.some.inj ei4
  obtain ⟨cs0, ev_CS⟩ := is_v (Cond.before_iff.mp (hsets _ (List.mem_of_getElem? (i := 1) rfl)))
  have S_CS : Sta s s.heap "java/lang/String" "COMPACT_STRINGS" "Z" (.int cs0) := Sta.start ev_CS (Or.inl (hsets _ (List.mem_of_getElem? (i := 0) rfl)))
  have n_CS : ¬ (cs0 = (0 : Int32)) := gotF (Cond.eq_ints ev_CS (Term.int_eval (0))) (not_v (Cond.before_iff.mp (hsets _ (List.mem_of_getElem? (i := 2) rfl))))
  obtain ⟨sf0, ev_SF, r_SF⟩ := isR_v (Cond.before_iff.mp (hsets _ (List.mem_of_getElem? (i := 8) rfl)))
  have S_SF : Sta s s.heap "jdk/internal/util/Preconditions" "SIOOBE_FORMATTER" "Ljava/util/function/BiFunction;" sf0 := Sta.start ev_SF (Or.inl (hsets _ (List.mem_of_getElem? (i := 7) rfl)))
  have hCH : CHv s consts_1 s.vm s.heap := CHv.start (own_EW hw) (fun q hq => hcalls.1 q hq) (hsets _ (List.mem_of_getElem? (i := 2) rfl)) (hw _ (List.mem_of_getElem? (i := 24) rfl)) (hw _ (List.mem_of_getElem? (i := 7) rfl))
  obtain ⟨n, o, h1, h2, h3, _, L, rfl, ⟨rfl, N, -⟩, hq⟩ := rm_law l s _ hw tables_1 i0 i1 i2 i3 i4 cs0 sf0 s.heap ⟨Nat.le_refl _, fun _ _ q => q⟩ ⟨S_CS, n_CS, S_SF, r_SF⟩  p e ha hc hk s m _ below hf ((Spec.applies_iff_loose hf).mp happ).1 ⟨rfl, State.Warmed39.refl s, rfl, hCH⟩ trivial
  refine ⟨n, _, h1, h2, h3, hpost _ _ _ _ _ _ ⟨Cond.after_iff.mpr rfl, Cond.after_iff.mpr (eq_i res_at (Term.int_eval (1)) rfl), trivial⟩ ⟨hq.1, hq.2.1, hq.2.2.1, (hq.2.2.2.sift fun y hy => Or.inr (N y hy)).mono (by decide) (by decide)⟩⟩
theorem main_1_1 : Claimed_1_1 := comes_1 fun _ _ _ _ _ _ h hF => ⟨h.1, hF⟩
theorem main_1_2 : Claimed_1_2 := comes_1 fun _ _ _ _ _ _ h hF => ⟨h.2.1, hF⟩
end Jvm.Pilot.@@N@@
namespace Jvm.Pilot.@@N@@
open Jvm Jvm.ClassFile Sem Op Lib Jvm.Free Jvm.Stand Jvm.Pilot.@@N@@.Jvm.D
/-! MADE BY PROGRAM (witnessworld.py) out of the Statement's table words and the real class files: 21 classes; the members and pool entries that the words name. The judged class is class 1, her method 2. -/
namespace start1
open Jvm.ClassFile
def u (s : String) : CpInfo := .utf8 (stringToUtf16 s)
/-- a pool by its gaps: so many unusable entries, then the entry; so many at the end -/
def gap : Nat → List CpInfo → List CpInfo
  | 0, r => r
  | n + 1, r => .unusable :: gap n r
def poolList (es : List (Nat × CpInfo)) (last : Nat) : List CpInfo := es.foldr (fun e r => gap e.1 (e.2 :: r)) (gap last [])
def pool (es : List (Nat × CpInfo)) (last : Nat) : Array CpInfo := ⟨poolList es last⟩
def fileOf (pool : Array CpInfo) (this : Nat) (attrs : Array Attribute := #[]) (ms : Array MethodInfo := #[]) (fl : Nat := 33) (sup : Nat := 0) (ifs : Array Nat := #[]) (fds : Array FieldInfo := #[]) : ClassFile where
  minorVersion := 0
  majorVersion := 65
  constantPool := pool
  accessFlags := fl
  thisClass := this
  superClass := sup
  interfaces := ifs
  fields := fds
  methods := ms
  attributes := attrs
def plain (name : String) (sup : Option ClassId) : Class where
  name := name
  kind := .ordinary
  loader := none
  accessFlags := 33
  super := sup
  interfaces := #[]
  cf := none
  fields := #[]
  methods := #[]
  instanceTypes := #[]
  staticTypes := #[]
  resolved := #[]
  callSites := []
  init := .initialized
  statics := none
  mirror := none

def pool0 : Array CpInfo := pool [(5, u "<init>"), (0, u "()V"), (1, .class_ 10), (1, u "java/lang/Object")] 113

def k0c0 : Code := { maxStack := 0, maxLocals := 1, code := object_method_1_code, exceptionTable := #[], attributes := #[] }
def k0m0 : Method := { name := "<init>", desc := "()V", sig := { parameters := [], returnType := none }, accessFlags := 1, code := some k0c0 }
/-- java/lang/Object -/
def k0 : Class := { plain "java/lang/Object" none with
  accessFlags := 33
  interfaces := #[]
  cf := some (fileOf pool0 8 #[] #[{ accessFlags := 1, nameIndex := 5, descriptorIndex := 6, attributes := #[] }] 33 0 #[] #[])
  fields := #[]
  methods := #[k0m0]
  instanceTypes := #[]
  staticTypes := #[]
  resolved := Array.replicate 124 none
  statics := none }

def pool1 : Array CpInfo := pool [(2, .class_ 4), (1, u "java/lang/Object"), (0, u "<init>"), (0, u "()V"), (0, .integer 2147483647), (0, .string 9), (0, u "abcdefghijklmnopqrstuvwxyz0123456789_abcdefghijklmnopqrstuvwxyz0"), (0, .methodref 11 12), (0, .class_ 13), (0, .nameAndType 14 15), (0, u "com/example/salp/salp/model/EdgeTypeOfPinLaw"), (0, u "ch"), (0, u "(I)C"), (0, .class_ 17), (0, u "java/lang/String"), (0, .methodref 16 19), (0, .nameAndType 5 20), (0, u "([C)V"), (0, .methodref 22 23), (0, .class_ 24), (0, .nameAndType 25 26), (0, u "com/example/salp/salp/model/EdgeType"), (0, u "of"), (0, u "(Ljava/lang/String;)Lcom/example/salp/salp/model/EdgeType;"), (0, .methodref 22 28), (0, .nameAndType 29 30), (0, u "name"), (0, u "()Ljava/lang/String;"), (0, .methodref 16 32), (0, .nameAndType 33 34), (0, u "equals"), (0, u "(Ljava/lang/Object;)Z"), (0, .methodref 22 36), (0, .nameAndType 37 30), (0, u "toString"), (3, u "law"), (0, u "(IIIII)Z")] 4

def k1m0 : Method := { name := "<init>", desc := "()V", sig := { parameters := [], returnType := none }, accessFlags := 1, code := none }
def k1c1 : Code := { maxStack := 3, maxLocals := 2, code := method_2_code, exceptionTable := #[], attributes := #[] }
def k1m1 : Method := { name := "ch", desc := "(I)C", sig := { parameters := [.int], returnType := some .char }, accessFlags := 10, code := some k1c1 }
def k1c2 : Code := { maxStack := 3, maxLocals := 9, code := code, exceptionTable := #[], attributes := #[] }
def k1m2 : Method := { name := "law", desc := "(IIIII)Z", sig := { parameters := [.int, .int, .int, .int, .int], returnType := some .boolean }, accessFlags := 9, code := some k1c2 }
/-- com/example/salp/salp/model/EdgeTypeOfPinLaw -/
def k1 : Class := { plain "com/example/salp/salp/model/EdgeTypeOfPinLaw" (some 0) with
  accessFlags := 49
  interfaces := #[]
  cf := some (fileOf pool1 11 #[] #[{ accessFlags := 1, nameIndex := 5, descriptorIndex := 6, attributes := #[] }, { accessFlags := 10, nameIndex := 14, descriptorIndex := 15, attributes := #[] }, { accessFlags := 9, nameIndex := 41, descriptorIndex := 42, attributes := #[] }] 49 2 #[] #[])
  fields := #[]
  methods := #[k1m0, k1m1, k1m2]
  instanceTypes := #[]
  staticTypes := #[]
  resolved := Array.replicate 47 none
  statics := none }

def pool2 : Array CpInfo := pool [(1, .class_ 2), (0, u "java/io/Serializable"), (0, .class_ 4), (0, u "java/lang/Object")] 2

/-- java/io/Serializable -/
def k2 : Class := { plain "java/io/Serializable" (some 0) with
  accessFlags := 1537
  interfaces := #[]
  cf := some (fileOf pool2 1 #[] #[] 1537 3 #[] #[])
  fields := #[]
  methods := #[]
  instanceTypes := #[]
  staticTypes := #[]
  resolved := Array.replicate 7 none
  statics := none }

def pool3 : Array CpInfo := pool [(1, .class_ 2), (0, u "java/lang/Comparable"), (0, .class_ 4), (0, u "java/lang/Object")] 7

/-- java/lang/Comparable -/
def k3 : Class := { plain "java/lang/Comparable" (some 0) with
  accessFlags := 1537
  interfaces := #[]
  cf := some (fileOf pool3 1 #[] #[] 1537 3 #[] #[])
  fields := #[]
  methods := #[]
  instanceTypes := #[]
  staticTypes := #[]
  resolved := Array.replicate 12 none
  statics := none }

def pool4 : Array CpInfo := pool [(2, .class_ 4), (1, u "java/lang/CharSequence"), (42, .class_ 48), (0, u "java/lang/CharSequence$1CodePointIterator"), (10, .class_ 60), (0, u "java/lang/CharSequence$1CharIterator"), (5, .class_ 67), (0, u "java/lang/Object")] 63

/-- java/lang/CharSequence -/
def k4 : Class := { plain "java/lang/CharSequence" (some 0) with
  accessFlags := 1537
  interfaces := #[]
  cf := some (fileOf pool4 2 #[.nestMembers #[47, 59]] #[] 1537 66 #[] #[])
  fields := #[]
  methods := #[]
  instanceTypes := #[]
  staticTypes := #[]
  resolved := Array.replicate 131 none
  statics := none }

def pool5 : Array CpInfo := pool [(1, .class_ 2), (0, u "java/lang/constant/Constable"), (0, .class_ 4), (0, u "java/lang/Object")] 6

/-- java/lang/constant/Constable -/
def k5 : Class := { plain "java/lang/constant/Constable" (some 0) with
  accessFlags := 1537
  interfaces := #[]
  cf := some (fileOf pool5 1 #[] #[] 1537 3 #[] #[])
  fields := #[]
  methods := #[]
  instanceTypes := #[]
  staticTypes := #[]
  resolved := Array.replicate 11 none
  statics := none }

def pool6 : Array CpInfo := pool [(1, .class_ 2), (0, u "java/lang/constant/ConstantDesc"), (0, .class_ 4), (0, u "java/lang/Object")] 32

/-- java/lang/constant/ConstantDesc -/
def k6 : Class := { plain "java/lang/constant/ConstantDesc" (some 0) with
  accessFlags := 1537
  interfaces := #[]
  cf := some (fileOf pool6 1 #[] #[] 1537 3 #[] #[])
  fields := #[]
  methods := #[]
  instanceTypes := #[]
  staticTypes := #[]
  resolved := Array.replicate 37 none
  statics := none }

def pool7 : Array CpInfo := pool [(1, .methodref 2 3), (0, .class_ 4), (0, .nameAndType 5 6), (0, u "java/lang/Object"), (0, u "<init>"), (0, u "()V"), (2, .fieldref 10 11), (0, .class_ 12), (0, .nameAndType 13 14), (0, u "java/lang/String"), (0, u "value"), (0, u "[B"), (0, .fieldref 10 16), (0, .nameAndType 17 18), (0, u "coder"), (0, u "B"), (2, u "hash"), (0, u "I"), (2, u "hashIsZero"), (0, u "Z"), (0, .methodref 10 28), (0, .nameAndType 5 29), (0, u "([CIILjava/lang/Void;)V"), (8, .fieldref 10 39), (0, .nameAndType 40 26), (0, u "COMPACT_STRINGS"), (1, .class_ 44), (1, u "java/lang/StringUTF16"), (0, u "compress"), (1, .methodref 42 48), (0, .nameAndType 49 50), (0, u "coderFromArrayLen"), (0, u "([BI)B"), (56, .class_ 109), (1, u "java/lang/StringLatin1"), (32, u "()Z"), (34, .methodref 42 178), (0, .nameAndType 45 179), (0, u "([CII)[B"), (154, u "()I"), (0, .methodref 10 336), (0, .nameAndType 17 337), (0, u "()B"), (25, u "([BI)C"), (27, u "(II)V"), (35, u "(I)C"), (64, .methodref 10 493), (0, .nameAndType 494 142), (0, u "isLatin1"), (0, .methodref 107 496), (0, .nameAndType 497 363), (0, u "charAt"), (3, u "checkIndex"), (5, u "length"), (35, u "equals"), (29, u "(Ljava/lang/Object;)Z"), (1, .class_ 576), (0, u "java/lang/CharSequence"), (22, u "CASE_INSENSITIVE_ORDER"), (0, u "Ljava/util/Comparator;"), (91, u "isEmpty"), (317, u "([C)V"), (42, .fieldref 1054 1055), (0, .class_ 1056), (0, .nameAndType 1057 1058), (0, u "jdk/internal/util/Preconditions"), (0, u "SIOOBE_FORMATTER"), (0, u "Ljava/util/function/BiFunction;"), (0, .methodref 1054 1060), (0, .nameAndType 501 1061), (0, u "(IILjava/util/function/BiFunction;)I"), (39, u "serialPersistentFields"), (0, u "[Ljava/io/ObjectStreamField;"), (0, .class_ 1104), (0, u "java/lang/String$CaseInsensitiveComparator"), (1, .class_ 1107), (0, u "java/io/Serializable"), (0, .class_ 1109), (0, u "java/lang/Comparable"), (0, .class_ 1111), (0, u "java/lang/constant/Constable"), (0, .class_ 1113), (0, u "java/lang/constant/ConstantDesc"), (2, u "serialVersionUID"), (0, u "J"), (3, u "REPL"), (0, u "C"), (2, u "LATIN1"), (1, u "UTF16")] 323

def k7m0 : Method := { name := "<init>", desc := "()V", sig := { parameters := [], returnType := none }, accessFlags := 1, code := none }
def k7c1 : Code := { maxStack := 5, maxLocals := 2, code := jdk_42_method_3_code, exceptionTable := #[], attributes := #[] }
def k7m1 : Method := { name := "<init>", desc := "([C)V", sig := { parameters := [(.array .char)], returnType := none }, accessFlags := 1, code := some k7c1 }
def k7c2 : Code := { maxStack := 2, maxLocals := 1, code := jdk_42_method_54_code, exceptionTable := #[], attributes := #[] }
def k7m2 : Method := { name := "length", desc := "()I", sig := { parameters := [], returnType := some .int }, accessFlags := 1, code := some k7c2 }
def k7c3 : Code := { maxStack := 1, maxLocals := 1, code := jdk_42_method_55_code, exceptionTable := #[], attributes := #[] }
def k7m3 : Method := { name := "isEmpty", desc := "()Z", sig := { parameters := [], returnType := some .boolean }, accessFlags := 1, code := some k7c3 }
def k7c4 : Code := { maxStack := 2, maxLocals := 2, code := jdk_42_method_56_code, exceptionTable := #[], attributes := #[] }
def k7m4 : Method := { name := "charAt", desc := "(I)C", sig := { parameters := [.int], returnType := some .char }, accessFlags := 1, code := some k7c4 }
def k7c5 : Code := { maxStack := 2, maxLocals := 3, code := jdk_42_method_66_code, exceptionTable := #[], attributes := #[] }
def k7m5 : Method := { name := "equals", desc := "(Ljava/lang/Object;)Z", sig := { parameters := [(.object "java/lang/Object")], returnType := some .boolean }, accessFlags := 1, code := some k7c5 }
def k7c6 : Code := { maxStack := 4, maxLocals := 6, code := jdk_42_method_149_code, exceptionTable := #[], attributes := #[] }
def k7m6 : Method := { name := "<init>", desc := "([CIILjava/lang/Void;)V", sig := { parameters := [(.array .char), .int, .int, (.object "java/lang/Void")], returnType := none }, accessFlags := 2, code := some k7c6 }
def k7c7 : Code := { maxStack := 1, maxLocals := 1, code := jdk_42_method_152_code, exceptionTable := #[], attributes := #[] }
def k7m7 : Method := { name := "coder", desc := "()B", sig := { parameters := [], returnType := some .byte }, accessFlags := 0, code := some k7c7 }
def k7c8 : Code := { maxStack := 1, maxLocals := 1, code := jdk_42_method_154_code, exceptionTable := #[], attributes := #[] }
def k7m8 : Method := { name := "isLatin1", desc := "()Z", sig := { parameters := [], returnType := some .boolean }, accessFlags := 0, code := some k7c8 }
def k7c9 : Code := { maxStack := 3, maxLocals := 2, code := jdk_42_method_155_code, exceptionTable := #[], attributes := #[] }
def k7m9 : Method := { name := "checkIndex", desc := "(II)V", sig := { parameters := [.int, .int], returnType := none }, accessFlags := 8, code := some k7c9 }
/-- java/lang/String -/
def k7 : Class := { plain "java/lang/String" (some 0) with
  accessFlags := 49
  interfaces := #[2, 3, 4, 5, 6]
  cf := some (fileOf pool7 10 #[.nestMembers #[1103]] #[{ accessFlags := 1, nameIndex := 5, descriptorIndex := 6, attributes := #[] }, { accessFlags := 1, nameIndex := 5, descriptorIndex := 1010, attributes := #[] }, { accessFlags := 1, nameIndex := 507, descriptorIndex := 334, attributes := #[] }, { accessFlags := 1, nameIndex := 692, descriptorIndex := 142, attributes := #[] }, { accessFlags := 1, nameIndex := 497, descriptorIndex := 427, attributes := #[] }, { accessFlags := 1, nameIndex := 543, descriptorIndex := 573, attributes := #[] }, { accessFlags := 2, nameIndex := 5, descriptorIndex := 29, attributes := #[] }, { accessFlags := 0, nameIndex := 17, descriptorIndex := 337, attributes := #[] }, { accessFlags := 0, nameIndex := 494, descriptorIndex := 142, attributes := #[] }, { accessFlags := 8, nameIndex := 501, descriptorIndex := 391, attributes := #[] }] 49 2 #[1106, 1108, 575, 1110, 1112] #[{ accessFlags := 18, nameIndex := 13, descriptorIndex := 14, attributes := #[] }, { accessFlags := 18, nameIndex := 17, descriptorIndex := 18, attributes := #[] }, { accessFlags := 2, nameIndex := 21, descriptorIndex := 22, attributes := #[] }, { accessFlags := 2, nameIndex := 25, descriptorIndex := 26, attributes := #[] }, { accessFlags := 26, nameIndex := 1116, descriptorIndex := 1117, attributes := #[] }, { accessFlags := 24, nameIndex := 40, descriptorIndex := 26, attributes := #[] }, { accessFlags := 26, nameIndex := 1101, descriptorIndex := 1102, attributes := #[] }, { accessFlags := 26, nameIndex := 1121, descriptorIndex := 1122, attributes := #[] }, { accessFlags := 25, nameIndex := 599, descriptorIndex := 600, attributes := #[] }, { accessFlags := 24, nameIndex := 1125, descriptorIndex := 18, attributes := #[] }, { accessFlags := 24, nameIndex := 1127, descriptorIndex := 18, attributes := #[] }])
  fields := #[{ name := "value", type := (.array .byte), accessFlags := 18, slot := 0, constantValue := 0 }, { name := "coder", type := .byte, accessFlags := 18, slot := 1, constantValue := 0 }, { name := "hash", type := .int, accessFlags := 2, slot := 2, constantValue := 0 }, { name := "hashIsZero", type := .boolean, accessFlags := 2, slot := 3, constantValue := 0 }, { name := "serialVersionUID", type := .long, accessFlags := 26, slot := 0, constantValue := 0 }, { name := "COMPACT_STRINGS", type := .boolean, accessFlags := 24, slot := 1, constantValue := 0 }, { name := "serialPersistentFields", type := (.array (.object "java/io/ObjectStreamField")), accessFlags := 26, slot := 2, constantValue := 0 }, { name := "REPL", type := .char, accessFlags := 26, slot := 3, constantValue := 0 }, { name := "CASE_INSENSITIVE_ORDER", type := (.object "java/util/Comparator"), accessFlags := 25, slot := 4, constantValue := 0 }, { name := "LATIN1", type := .byte, accessFlags := 24, slot := 5, constantValue := 0 }, { name := "UTF16", type := .byte, accessFlags := 24, slot := 6, constantValue := 0 }]
  methods := #[k7m0, k7m1, k7m2, k7m3, k7m4, k7m5, k7m6, k7m7, k7m8, k7m9]
  instanceTypes := #[(.array .byte), .byte, .int, .boolean]
  staticTypes := #[.long, .boolean, (.array (.object "java/io/ObjectStreamField")), .char, (.object "java/util/Comparator"), .byte, .byte]
  resolved := Array.replicate 1451 none
  statics := some 0 }

def pool8 : Array CpInfo := pool [(6, .class_ 8), (1, u "java/lang/Object"), (0, u "<init>"), (0, u "()V"), (1, .class_ 14), (1, u "java/lang/StringUTF16"), (31, u "$assertionsDisabled"), (0, u "Z"), (13, u "HI_BYTE_SHIFT"), (0, u "I"), (2, u "LO_BYTE_SHIFT"), (49, .methodref 12 116), (0, .nameAndType 117 118), (0, u "compress"), (0, u "([CI[BII)I"), (3, u "([CII)[B"), (138, u "coderFromArrayLen"), (0, u "([BI)B"), (106, .class_ 371), (1, u "java/lang/StringUTF16$LinesSpliterator"), (58, u "MAX_LENGTH"), (196, .class_ 628), (0, u "java/lang/StringUTF16$CodePointsSpliterator"), (0, .class_ 630), (0, u "java/lang/StringUTF16$CharsSpliterator")] 4

def k8m0 : Method := { name := "<init>", desc := "()V", sig := { parameters := [], returnType := none }, accessFlags := 0, code := none }
def k8c1 : Code := { maxStack := 2, maxLocals := 2, code := jdk_52_method_15_code, exceptionTable := #[], attributes := #[] }
def k8m1 : Method := { name := "coderFromArrayLen", desc := "([BI)B", sig := { parameters := [(.array .byte), .int], returnType := some .byte }, accessFlags := 8, code := some k8c1 }
def k8c2 : Code := { maxStack := 5, maxLocals := 6, code := jdk_52_method_16_code, exceptionTable := #[], attributes := #[] }
def k8m2 : Method := { name := "compress", desc := "([CII)[B", sig := { parameters := [(.array .char), .int, .int], returnType := some (.array .byte) }, accessFlags := 9, code := some k8c2 }
def k8c3 : Code := { maxStack := 3, maxLocals := 7, code := jdk_52_method_21_code, exceptionTable := #[], attributes := #[] }
def k8m3 : Method := { name := "compress", desc := "([CI[BII)I", sig := { parameters := [(.array .char), .int, (.array .byte), .int, .int], returnType := some .int }, accessFlags := 9, code := some k8c3 }
/-- java/lang/StringUTF16 -/
def k8 : Class := { plain "java/lang/StringUTF16" (some 0) with
  accessFlags := 48
  interfaces := #[]
  cf := some (fileOf pool8 12 #[.nestMembers #[627, 629, 369]] #[{ accessFlags := 0, nameIndex := 9, descriptorIndex := 10, attributes := #[] }, { accessFlags := 8, nameIndex := 261, descriptorIndex := 262, attributes := #[] }, { accessFlags := 9, nameIndex := 117, descriptorIndex := 122, attributes := #[] }, { accessFlags := 9, nameIndex := 117, descriptorIndex := 118, attributes := #[] }] 48 6 #[] #[{ accessFlags := 26, nameIndex := 61, descriptorIndex := 62, attributes := #[] }, { accessFlags := 26, nameIndex := 65, descriptorIndex := 62, attributes := #[] }, { accessFlags := 24, nameIndex := 430, descriptorIndex := 62, attributes := #[] }, { accessFlags := 4120, nameIndex := 46, descriptorIndex := 47, attributes := #[] }])
  fields := #[{ name := "HI_BYTE_SHIFT", type := .int, accessFlags := 26, slot := 0, constantValue := 0 }, { name := "LO_BYTE_SHIFT", type := .int, accessFlags := 26, slot := 1, constantValue := 0 }, { name := "MAX_LENGTH", type := .int, accessFlags := 24, slot := 2, constantValue := 0 }, { name := "$assertionsDisabled", type := .boolean, accessFlags := 4120, slot := 3, constantValue := 0 }]
  methods := #[k8m0, k8m1, k8m2, k8m3]
  instanceTypes := #[]
  staticTypes := #[.int, .int, .int, .boolean]
  resolved := Array.replicate 635 none
  statics := none }

def pool9 : Array CpInfo := pool [(1, .methodref 2 3), (0, .class_ 4), (0, .nameAndType 5 6), (0, u "java/lang/Object"), (0, u "<init>"), (0, u "()V"), (0, .fieldref 8 9), (0, .class_ 10), (0, .nameAndType 11 12), (0, u "com/example/salp/salp/model/EdgeType"), (0, u "name"), (0, u "Ljava/lang/String;"), (0, .string 11), (0, .methodref 15 16), (0, .class_ 17), (0, .nameAndType 18 19), (0, u "java/util/Objects"), (0, u "requireNonNull"), (0, u "(Ljava/lang/Object;Ljava/lang/String;)Ljava/lang/Object;"), (0, .methodref 21 22), (0, .class_ 23), (0, .nameAndType 24 25), (0, u "java/lang/String"), (0, u "isEmpty"), (0, u "()Z"), (0, .methodref 21 27), (0, .nameAndType 28 29), (0, u "length"), (0, u "()I"), (0, .methodref 21 31), (0, .nameAndType 32 33), (0, u "charAt"), (0, u "(I)C"), (5, .nameAndType 5 40), (0, u "(Ljava/lang/String;)V"), (0, .methodref 8 39), (7, u "MAX_LENGTH"), (0, u "I"), (4, u "of"), (0, u "(Ljava/lang/String;)Lcom/example/salp/salp/model/EdgeType;"), (1, u "()Ljava/lang/String;"), (0, u "toString")] 2

def k9c0 : Code := { maxStack := 2, maxLocals := 2, code := prog_7_method_1_code, exceptionTable := #[], attributes := #[] }
def k9m0 : Method := { name := "<init>", desc := "(Ljava/lang/String;)V", sig := { parameters := [(.object "java/lang/String")], returnType := none }, accessFlags := 2, code := some k9c0 }
def k9c1 : Code := { maxStack := 3, maxLocals := 4, code := prog_7_method_2_code, exceptionTable := #[], attributes := #[] }
def k9m1 : Method := { name := "of", desc := "(Ljava/lang/String;)Lcom/example/salp/salp/model/EdgeType;", sig := { parameters := [(.object "java/lang/String")], returnType := some (.object "com/example/salp/salp/model/EdgeType") }, accessFlags := 9, code := some k9c1 }
def k9c2 : Code := { maxStack := 1, maxLocals := 1, code := prog_7_method_3_code, exceptionTable := #[], attributes := #[] }
def k9m2 : Method := { name := "name", desc := "()Ljava/lang/String;", sig := { parameters := [], returnType := some (.object "java/lang/String") }, accessFlags := 1, code := some k9c2 }
def k9c3 : Code := { maxStack := 1, maxLocals := 1, code := prog_7_method_4_code, exceptionTable := #[], attributes := #[] }
def k9m3 : Method := { name := "toString", desc := "()Ljava/lang/String;", sig := { parameters := [], returnType := some (.object "java/lang/String") }, accessFlags := 1, code := some k9c3 }
/-- com/example/salp/salp/model/EdgeType -/
def k9 : Class := { plain "com/example/salp/salp/model/EdgeType" (some 0) with
  accessFlags := 49
  interfaces := #[]
  cf := some (fileOf pool9 8 #[] #[{ accessFlags := 2, nameIndex := 5, descriptorIndex := 40, attributes := #[] }, { accessFlags := 9, nameIndex := 55, descriptorIndex := 56, attributes := #[] }, { accessFlags := 1, nameIndex := 11, descriptorIndex := 58, attributes := #[] }, { accessFlags := 1, nameIndex := 59, descriptorIndex := 58, attributes := #[] }] 49 2 #[] #[{ accessFlags := 25, nameIndex := 49, descriptorIndex := 50, attributes := #[] }, { accessFlags := 18, nameIndex := 11, descriptorIndex := 12, attributes := #[] }])
  fields := #[{ name := "MAX_LENGTH", type := .int, accessFlags := 25, slot := 0, constantValue := 0 }, { name := "name", type := (.object "java/lang/String"), accessFlags := 18, slot := 0, constantValue := 0 }]
  methods := #[k9m0, k9m1, k9m2, k9m3]
  instanceTypes := #[(.object "java/lang/String")]
  staticTypes := #[.int]
  resolved := Array.replicate 62 none
  statics := none }

def pool10 : Array CpInfo := pool [(2, .class_ 4), (1, u "java/lang/Object"), (0, u "<init>"), (0, u "()V"), (35, .class_ 44), (1, u "java/util/Objects"), (0, u "requireNonNull"), (48, u "(Ljava/lang/Object;Ljava/lang/String;)Ljava/lang/Object;")] 89

def k10m0 : Method := { name := "<init>", desc := "()V", sig := { parameters := [], returnType := none }, accessFlags := 2, code := none }
def k10c1 : Code := { maxStack := 3, maxLocals := 2, code := jdk_31_method_11_code, exceptionTable := #[], attributes := #[] }
def k10m1 : Method := { name := "requireNonNull", desc := "(Ljava/lang/Object;Ljava/lang/String;)Ljava/lang/Object;", sig := { parameters := [(.object "java/lang/Object"), (.object "java/lang/String")], returnType := some (.object "java/lang/Object") }, accessFlags := 9, code := some k10c1 }
/-- java/util/Objects -/
def k10 : Class := { plain "java/util/Objects" (some 0) with
  accessFlags := 49
  interfaces := #[]
  cf := some (fileOf pool10 42 #[] #[{ accessFlags := 2, nameIndex := 5, descriptorIndex := 6, attributes := #[] }, { accessFlags := 9, nameIndex := 45, descriptorIndex := 94, attributes := #[] }] 49 2 #[] #[])
  fields := #[]
  methods := #[k10m0, k10m1]
  instanceTypes := #[]
  staticTypes := #[]
  resolved := Array.replicate 184 none
  statics := none }

def pool11 : Array CpInfo := pool [(1, .class_ 2), (0, u "java/lang/String"), (1, .class_ 6), (1, u "java/lang/Object"), (0, u "<init>"), (0, u "()V"), (0, .methodref 1 10), (0, .nameAndType 11 12), (0, u "checkIndex"), (0, u "(II)V"), (1, .class_ 16), (1, u "java/lang/StringLatin1"), (36, u "([BI)C"), (67, u "$assertionsDisabled"), (0, u "Z"), (98, .class_ 223), (1, u "java/lang/StringLatin1$LinesSpliterator"), (28, u "charAt"), (137, .class_ 391), (0, u "java/lang/StringLatin1$CharsSpliterator")] 3

def k11m0 : Method := { name := "<init>", desc := "()V", sig := { parameters := [], returnType := none }, accessFlags := 0, code := none }
def k11c1 : Code := { maxStack := 2, maxLocals := 2, code := jdk_43_method_2_code, exceptionTable := #[], attributes := #[] }
def k11m1 : Method := { name := "charAt", desc := "([BI)C", sig := { parameters := [(.array .byte), .int], returnType := some .char }, accessFlags := 9, code := some k11c1 }
/-- java/lang/StringLatin1 -/
def k11 : Class := { plain "java/lang/StringLatin1" (some 0) with
  accessFlags := 48
  interfaces := #[]
  cf := some (fileOf pool11 14 #[.nestMembers #[390, 221]] #[{ accessFlags := 0, nameIndex := 7, descriptorIndex := 8, attributes := #[] }, { accessFlags := 9, nameIndex := 252, descriptorIndex := 53, attributes := #[] }] 48 4 #[] #[{ accessFlags := 4120, nameIndex := 121, descriptorIndex := 122, attributes := #[] }])
  fields := #[{ name := "$assertionsDisabled", type := .boolean, accessFlags := 4120, slot := 0, constantValue := 0 }]
  methods := #[k11m0, k11m1]
  instanceTypes := #[]
  staticTypes := #[.boolean]
  resolved := Array.replicate 395 none
  statics := none }

def pool12 : Array CpInfo := pool [(2, .class_ 4), (1, u "java/lang/Object"), (0, u "<init>"), (0, u "()V"), (17, .class_ 26), (1, u "jdk/internal/util/Preconditions"), (6, u "checkIndex"), (21, .class_ 56), (0, u "jdk/internal/util/Preconditions$4"), (57, .class_ 115), (0, u "jdk/internal/util/Preconditions$1"), (7, u "SIOOBE_FORMATTER"), (0, u "Ljava/util/function/BiFunction;"), (0, .class_ 126), (0, u "jdk/internal/util/Preconditions$2"), (3, u "AIOOBE_FORMATTER"), (0, .class_ 132), (0, u "jdk/internal/util/Preconditions$3"), (3, u "IOOBE_FORMATTER"), (41, u "(IILjava/util/function/BiFunction;)I")] 15

def k12m0 : Method := { name := "<init>", desc := "()V", sig := { parameters := [], returnType := none }, accessFlags := 1, code := none }
def k12c1 : Code := { maxStack := 3, maxLocals := 3, code := jdk_41_method_11_code, exceptionTable := #[], attributes := #[] }
def k12m1 : Method := { name := "checkIndex", desc := "(IILjava/util/function/BiFunction;)I", sig := { parameters := [.int, .int, (.object "java/util/function/BiFunction")], returnType := some .int }, accessFlags := 9, code := some k12c1 }
/-- jdk/internal/util/Preconditions -/
def k12 : Class := { plain "jdk/internal/util/Preconditions" (some 0) with
  accessFlags := 33
  interfaces := #[]
  cf := some (fileOf pool12 24 #[.nestMembers #[55, 131, 125, 114]] #[{ accessFlags := 1, nameIndex := 5, descriptorIndex := 6, attributes := #[] }, { accessFlags := 9, nameIndex := 33, descriptorIndex := 178, attributes := #[] }] 33 2 #[] #[{ accessFlags := 25, nameIndex := 123, descriptorIndex := 124, attributes := #[] }, { accessFlags := 25, nameIndex := 130, descriptorIndex := 124, attributes := #[] }, { accessFlags := 25, nameIndex := 136, descriptorIndex := 124, attributes := #[] }])
  fields := #[{ name := "SIOOBE_FORMATTER", type := (.object "java/util/function/BiFunction"), accessFlags := 25, slot := 0, constantValue := 0 }, { name := "AIOOBE_FORMATTER", type := (.object "java/util/function/BiFunction"), accessFlags := 25, slot := 1, constantValue := 0 }, { name := "IOOBE_FORMATTER", type := (.object "java/util/function/BiFunction"), accessFlags := 25, slot := 2, constantValue := 0 }]
  methods := #[k12m0, k12m1]
  instanceTypes := #[]
  staticTypes := #[(.object "java/util/function/BiFunction"), (.object "java/util/function/BiFunction"), (.object "java/util/function/BiFunction")]
  resolved := Array.replicate 194 none
  statics := some 1 }

def pool13 : Array CpInfo := pool [(9, u "<init>"), (6, .class_ 18), (1, u "java/lang/Object"), (0, u "()V"), (1, .class_ 23), (1, u "jdk/internal/util/ArraysSupport"), (0, u "LOG2_ARRAY_LONG_INDEX_SCALE"), (0, u "I"), (2, u "U"), (0, u "Ljdk/internal/misc/Unsafe;"), (8, u "BIG_ENDIAN"), (0, u "Z"), (8, u "LOG2_BYTE_BIT_SIZE"), (4, u "LOG2_ARRAY_INT_INDEX_SCALE"), (54, u "JLA"), (0, u "Ljdk/internal/access/JavaLangAccess;"), (11, u "LOG2_ARRAY_BOOLEAN_INDEX_SCALE"), (9, u "LOG2_ARRAY_BYTE_INDEX_SCALE"), (5, u "LOG2_ARRAY_CHAR_INDEX_SCALE"), (5, u "LOG2_ARRAY_SHORT_INDEX_SCALE"), (18, u "LOG2_ARRAY_FLOAT_INDEX_SCALE"), (24, u "LOG2_ARRAY_DOUBLE_INDEX_SCALE"), (89, u "T_BOOLEAN"), (2, u "T_CHAR"), (1, u "T_FLOAT"), (1, u "T_DOUBLE"), (1, u "T_BYTE"), (1, u "T_SHORT"), (1, u "T_INT"), (1, u "T_LONG"), (1, u "SOFT_MAX_ARRAY_LENGTH")] 83

def k13m0 : Method := { name := "<init>", desc := "()V", sig := { parameters := [], returnType := none }, accessFlags := 2, code := none }
/-- jdk/internal/util/ArraysSupport -/
def k13 : Class := { plain "jdk/internal/util/ArraysSupport" (some 0) with
  accessFlags := 33
  interfaces := #[]
  cf := some (fileOf pool13 21 #[] #[{ accessFlags := 2, nameIndex := 9, descriptorIndex := 19, attributes := #[] }] 33 16 #[] #[{ accessFlags := 24, nameIndex := 28, descriptorIndex := 29, attributes := #[] }, { accessFlags := 26, nameIndex := 38, descriptorIndex := 39, attributes := #[] }, { accessFlags := 25, nameIndex := 121, descriptorIndex := 25, attributes := #[] }, { accessFlags := 25, nameIndex := 131, descriptorIndex := 25, attributes := #[] }, { accessFlags := 25, nameIndex := 137, descriptorIndex := 25, attributes := #[] }, { accessFlags := 25, nameIndex := 143, descriptorIndex := 25, attributes := #[] }, { accessFlags := 25, nameIndex := 53, descriptorIndex := 25, attributes := #[] }, { accessFlags := 25, nameIndex := 24, descriptorIndex := 25, attributes := #[] }, { accessFlags := 25, nameIndex := 162, descriptorIndex := 25, attributes := #[] }, { accessFlags := 25, nameIndex := 187, descriptorIndex := 25, attributes := #[] }, { accessFlags := 26, nameIndex := 48, descriptorIndex := 25, attributes := #[] }, { accessFlags := 25, nameIndex := 277, descriptorIndex := 25, attributes := #[] }, { accessFlags := 25, nameIndex := 280, descriptorIndex := 25, attributes := #[] }, { accessFlags := 25, nameIndex := 282, descriptorIndex := 25, attributes := #[] }, { accessFlags := 25, nameIndex := 284, descriptorIndex := 25, attributes := #[] }, { accessFlags := 25, nameIndex := 286, descriptorIndex := 25, attributes := #[] }, { accessFlags := 25, nameIndex := 288, descriptorIndex := 25, attributes := #[] }, { accessFlags := 25, nameIndex := 290, descriptorIndex := 25, attributes := #[] }, { accessFlags := 25, nameIndex := 292, descriptorIndex := 25, attributes := #[] }, { accessFlags := 26, nameIndex := 108, descriptorIndex := 109, attributes := #[] }, { accessFlags := 25, nameIndex := 294, descriptorIndex := 25, attributes := #[] }])
  fields := #[{ name := "U", type := (.object "jdk/internal/misc/Unsafe"), accessFlags := 24, slot := 0, constantValue := 0 }, { name := "BIG_ENDIAN", type := .boolean, accessFlags := 26, slot := 1, constantValue := 0 }, { name := "LOG2_ARRAY_BOOLEAN_INDEX_SCALE", type := .int, accessFlags := 25, slot := 2, constantValue := 0 }, { name := "LOG2_ARRAY_BYTE_INDEX_SCALE", type := .int, accessFlags := 25, slot := 3, constantValue := 0 }, { name := "LOG2_ARRAY_CHAR_INDEX_SCALE", type := .int, accessFlags := 25, slot := 4, constantValue := 0 }, { name := "LOG2_ARRAY_SHORT_INDEX_SCALE", type := .int, accessFlags := 25, slot := 5, constantValue := 0 }, { name := "LOG2_ARRAY_INT_INDEX_SCALE", type := .int, accessFlags := 25, slot := 6, constantValue := 0 }, { name := "LOG2_ARRAY_LONG_INDEX_SCALE", type := .int, accessFlags := 25, slot := 7, constantValue := 0 }, { name := "LOG2_ARRAY_FLOAT_INDEX_SCALE", type := .int, accessFlags := 25, slot := 8, constantValue := 0 }, { name := "LOG2_ARRAY_DOUBLE_INDEX_SCALE", type := .int, accessFlags := 25, slot := 9, constantValue := 0 }, { name := "LOG2_BYTE_BIT_SIZE", type := .int, accessFlags := 26, slot := 10, constantValue := 0 }, { name := "T_BOOLEAN", type := .int, accessFlags := 25, slot := 11, constantValue := 0 }, { name := "T_CHAR", type := .int, accessFlags := 25, slot := 12, constantValue := 0 }, { name := "T_FLOAT", type := .int, accessFlags := 25, slot := 13, constantValue := 0 }, { name := "T_DOUBLE", type := .int, accessFlags := 25, slot := 14, constantValue := 0 }, { name := "T_BYTE", type := .int, accessFlags := 25, slot := 15, constantValue := 0 }, { name := "T_SHORT", type := .int, accessFlags := 25, slot := 16, constantValue := 0 }, { name := "T_INT", type := .int, accessFlags := 25, slot := 17, constantValue := 0 }, { name := "T_LONG", type := .int, accessFlags := 25, slot := 18, constantValue := 0 }, { name := "JLA", type := (.object "jdk/internal/access/JavaLangAccess"), accessFlags := 26, slot := 19, constantValue := 0 }, { name := "SOFT_MAX_ARRAY_LENGTH", type := .int, accessFlags := 25, slot := 20, constantValue := 0 }]
  methods := #[k13m0]
  instanceTypes := #[]
  staticTypes := #[(.object "jdk/internal/misc/Unsafe"), .boolean, .int, .int, .int, .int, .int, .int, .int, .int, .int, .int, .int, .int, .int, .int, .int, .int, .int, (.object "jdk/internal/access/JavaLangAccess"), .int]
  resolved := Array.replicate 378 none
  statics := none }

def pool14 : Array CpInfo := pool [(1, u "java/lang/Cloneable"), (0, .class_ 1), (0, u "java/lang/Object"), (0, .class_ 3)] 3

/-- java/lang/Cloneable -/
def k14 : Class := { plain "java/lang/Cloneable" (some 0) with
  accessFlags := 1537
  interfaces := #[]
  cf := some (fileOf pool14 2 #[] #[] 1537 4 #[] #[])
  fields := #[]
  methods := #[]
  instanceTypes := #[]
  staticTypes := #[]
  resolved := Array.replicate 8 none
  statics := none }

/-- the primitive byte -/
def k15 : Class := { plain "byte" none with kind := .primitive 'B', accessFlags := 0x411 }
/-- [B -/
def k16 : Class := { plain "[B" (some 0) with kind := .array 15 .byte, interfaces := #[14, 2], accessFlags := 1041 }

/-- the primitive char -/
def k17 : Class := { plain "char" none with kind := .primitive 'C', accessFlags := 0x411 }
/-- [C -/
def k18 : Class := { plain "[C" (some 0) with kind := .array 17 .char, interfaces := #[14, 2], accessFlags := 1041 }

/-- the primitive int -/
def k19 : Class := { plain "int" none with kind := .primitive 'I', accessFlags := 0x411 }
/-- [I -/
def k20 : Class := { plain "[I" (some 0) with kind := .array 19 .int, interfaces := #[14, 2], accessFlags := 1041 }

def heap : Heap := #[{ cls := 7, slots := #[.long 0, .int 1, .null, .int 0, .null, .int 0, .int 0], vm := .statics 7 },
  { cls := 12, slots := #[.null, .null, .null], vm := .statics 12 }]
def classes : Array Class := #[k0, k1, k2, k3, k4, k5, k6, k7, k8, k9, k10, k11, k12, k13, k14, k15, k16, k17, k18, k19, k20]
def interned : List (Array UInt16 × Addr) := []
def slotsUsed : Nat := 10
def theMethod : MethodId := ⟨1, 2⟩
def args0 : Array Value := #[.int 1, .int 2, .int 3, .int 4, .int 5]
def aboutOver (below : List Frame) : State where
  vm := { classes := classes, interned := interned.toArray }
  heap := heap
  slotsUsed := slotsUsed
  threads := #[{ frames := .invoking theMethod args0 :: below }]
def below0 : List Frame := [.native { method := ⟨0, 0⟩, args := #[] }]
def about1 : State := aboutOver below0
def p0 : Program := .bare "" "" ""
def e0 : Env := launch0.env 0 0 0
theorem w_frames : about1.frames = Frame.invoking theMethod args0 :: below0 := rfl
set_option maxRecDepth 65536 in
theorem w_args : argsFit about1.vm theMethod args0 = true := by decide +kernel
set_option maxRecDepth 65536 in
theorem w_heap : heapFits about1 = true := by decide +kernel
set_option maxRecDepth 65536 in
theorem w_runnable : about1.curStatus? = some .runnable := by decide +kernel
set_option maxRecDepth 65536 in
theorem w_alone : about1.alone = true := by decide +kernel
set_option maxRecDepth 65536 in
theorem w_named : about1.methodNamed? x = some theMethod := by decide +kernel
set_option maxRecDepth 65536 in
theorem w_hears : about1.hears theMethod below0 = true := by decide +kernel
set_option maxRecDepth 65536 in
theorem w_ripe : about1.ripe theMethod args0 below0 = true := by decide +kernel
theorem w_running : about1.status = .running := rfl
set_option maxRecDepth 65536 in
theorem w_room : about1.hasRoom e0.platform room_1 = true :=
  launch0.hasRoom_least _ room_1 (by decide +kernel) (by decide +kernel) (by decide +kernel) (by decide +kernel) (by decide +kernel) (by decide +kernel)
theorem allAtoms_all (ts : List Jvm.Cond) (a : Array Jvm.Value) (st : Jvm.State) : (allAtoms ts).before a st = ts.all (fun c => c.before a st) := by
  induction ts with
  | nil => rfl
  | cons c t ih =>
    show (Jvm.Cond.and c (allAtoms t)).before a st = _
    rw [Jvm.Cond.before_and, ih, List.all_cons]
def words1 : List Jvm.Cond := Jvm.Cond.code x code maxLocals ret :: tables_1
/-- a 'code' word, met by the world's own term for the bytes: nothing is compared byte by byte -/
theorem code_word {y : MethodName} {bytes : ByteArray} {mx : Nat} {rt : Option FieldType} {a : Array Value} {s : State} {m : MethodId} {meth : Method} {c : Code} (h1 : s.methodNamed? y = some m) (h2 : s.vm.method? m = some meth) (h3 : meth.code = some c) (h4 : c.code = bytes)
    (h5 : (c.maxLocals == mx && c.exceptionTable.isEmpty && decide (c.maxStack ≤ mostOperands) && decide (meth.sig.returnType = rt) && !meth.locks && decide (parseMethodDescriptor y.desc = some meth.sig)) = true) : (Jvm.Cond.code y bytes mx rt).before a s = true := by
  simp only [Bool.and_eq_true, beq_iff_eq, Bool.not_eq_true', decide_eq_true_eq] at h5
  obtain ⟨⟨⟨⟨⟨g1, g2⟩, g3⟩, g4⟩, g5⟩, g6⟩ := h5
  simp [Cond.before, Cond.holds, Cond.value, h1, h2, h3, h4, g1, g2, g3, g4, g5, g6]
def isCode : Jvm.Cond → Bool
  | .code _ _ _ _ => true
  | _ => false
theorem all_split {L : List Jvm.Cond} {P : Jvm.Cond → Bool} (h1 : L.all (fun c => isCode c || P c) = true) (h2 : ∀ c ∈ L.filter isCode, P c = true) : L.all P = true := by
  refine List.all_eq_true.mpr fun c hc => ?_
  have h := List.all_eq_true.mp h1 c hc
  rcases Bool.eq_false_or_eq_true (isCode c) with hi | hi
  · exact h2 c (List.mem_filter.mpr ⟨hc, hi⟩)
  · simpa [hi] using h
set_option maxRecDepth 65536 in
theorem w_c0 : (Jvm.Cond.code x code maxLocals ret).before args0 about1 = true := code_word (m := ⟨1, 2⟩) (meth := k1m2) (c := k1c2) (by decide +kernel) rfl rfl rfl (by decide +kernel)
set_option maxRecDepth 65536 in
theorem w_c1 : (Jvm.Cond.code ({ cls := "com/example/salp/salp/model/EdgeTypeOfPinLaw", name := "ch", desc := "(I)C" } : Jvm.MethodName) method_2_code (2 : Nat) (Option.some Jvm.ClassFile.FieldType.char)).before args0 about1 = true := code_word (m := ⟨1, 1⟩) (meth := k1m1) (c := k1c1) (by decide +kernel) rfl rfl rfl (by decide +kernel)
set_option maxRecDepth 65536 in
theorem w_c2 : (Jvm.Cond.code ({ cls := "java/lang/String", name := "<init>", desc := "([C)V" } : Jvm.MethodName) jdk_42_method_3_code (2 : Nat) (Option.none : Option Jvm.ClassFile.FieldType)).before args0 about1 = true := code_word (m := ⟨7, 1⟩) (meth := k7m1) (c := k7c1) (by decide +kernel) rfl rfl rfl (by decide +kernel)
set_option maxRecDepth 65536 in
theorem w_c3 : (Jvm.Cond.code ({ cls := "java/lang/String", name := "<init>", desc := "([CIILjava/lang/Void;)V" } : Jvm.MethodName) jdk_42_method_149_code (6 : Nat) (Option.none : Option Jvm.ClassFile.FieldType)).before args0 about1 = true := code_word (m := ⟨7, 6⟩) (meth := k7m6) (c := k7c6) (by decide +kernel) rfl rfl rfl (by decide +kernel)
set_option maxRecDepth 65536 in
theorem w_c4 : (Jvm.Cond.code ({ cls := "java/lang/Object", name := "<init>", desc := "()V" } : Jvm.MethodName) object_method_1_code (1 : Nat) (Option.none : Option Jvm.ClassFile.FieldType)).before args0 about1 = true := code_word (m := ⟨0, 0⟩) (meth := k0m0) (c := k0c0) (by decide +kernel) rfl rfl rfl (by decide +kernel)
set_option maxRecDepth 65536 in
theorem w_c5 : (Jvm.Cond.code ({ cls := "java/lang/StringUTF16", name := "compress", desc := "([CII)[B" } : Jvm.MethodName) jdk_52_method_16_code (6 : Nat) (Option.some (Jvm.ClassFile.FieldType.array Jvm.ClassFile.FieldType.byte))).before args0 about1 = true := code_word (m := ⟨8, 2⟩) (meth := k8m2) (c := k8c2) (by decide +kernel) rfl rfl rfl (by decide +kernel)
set_option maxRecDepth 65536 in
theorem w_c6 : (Jvm.Cond.code ({ cls := "java/lang/StringUTF16", name := "compress", desc := "([CI[BII)I" } : Jvm.MethodName) jdk_52_method_21_code (7 : Nat) (Option.some Jvm.ClassFile.FieldType.int)).before args0 about1 = true := code_word (m := ⟨8, 3⟩) (meth := k8m3) (c := k8c3) (by decide +kernel) rfl rfl rfl (by decide +kernel)
set_option maxRecDepth 65536 in
theorem w_c7 : (Jvm.Cond.code ({ cls := "java/lang/StringUTF16", name := "coderFromArrayLen", desc := "([BI)B" } : Jvm.MethodName) jdk_52_method_15_code (2 : Nat) (Option.some Jvm.ClassFile.FieldType.byte)).before args0 about1 = true := code_word (m := ⟨8, 1⟩) (meth := k8m1) (c := k8c1) (by decide +kernel) rfl rfl rfl (by decide +kernel)
set_option maxRecDepth 65536 in
theorem w_c8 : (Jvm.Cond.code ({ cls := "com/example/salp/salp/model/EdgeType", name := "of", desc := "(Ljava/lang/String;)Lcom/example/salp/salp/model/EdgeType;" } : Jvm.MethodName) prog_7_method_2_code (4 : Nat) (Option.some (Jvm.ClassFile.FieldType.object "com/example/salp/salp/model/EdgeType"))).before args0 about1 = true := code_word (m := ⟨9, 1⟩) (meth := k9m1) (c := k9c1) (by decide +kernel) rfl rfl rfl (by decide +kernel)
set_option maxRecDepth 65536 in
theorem w_c9 : (Jvm.Cond.code ({ cls := "java/util/Objects", name := "requireNonNull", desc := "(Ljava/lang/Object;Ljava/lang/String;)Ljava/lang/Object;" } : Jvm.MethodName) jdk_31_method_11_code (2 : Nat) (Option.some (Jvm.ClassFile.FieldType.object "java/lang/Object"))).before args0 about1 = true := code_word (m := ⟨10, 1⟩) (meth := k10m1) (c := k10c1) (by decide +kernel) rfl rfl rfl (by decide +kernel)
set_option maxRecDepth 65536 in
theorem w_c10 : (Jvm.Cond.code ({ cls := "java/lang/String", name := "isEmpty", desc := "()Z" } : Jvm.MethodName) jdk_42_method_55_code (1 : Nat) (Option.some Jvm.ClassFile.FieldType.boolean)).before args0 about1 = true := code_word (m := ⟨7, 3⟩) (meth := k7m3) (c := k7c3) (by decide +kernel) rfl rfl rfl (by decide +kernel)
set_option maxRecDepth 65536 in
theorem w_c11 : (Jvm.Cond.code ({ cls := "java/lang/String", name := "length", desc := "()I" } : Jvm.MethodName) jdk_42_method_54_code (1 : Nat) (Option.some Jvm.ClassFile.FieldType.int)).before args0 about1 = true := code_word (m := ⟨7, 2⟩) (meth := k7m2) (c := k7c2) (by decide +kernel) rfl rfl rfl (by decide +kernel)
set_option maxRecDepth 65536 in
theorem w_c12 : (Jvm.Cond.code ({ cls := "java/lang/String", name := "coder", desc := "()B" } : Jvm.MethodName) jdk_42_method_152_code (1 : Nat) (Option.some Jvm.ClassFile.FieldType.byte)).before args0 about1 = true := code_word (m := ⟨7, 7⟩) (meth := k7m7) (c := k7c7) (by decide +kernel) rfl rfl rfl (by decide +kernel)
set_option maxRecDepth 65536 in
theorem w_c13 : (Jvm.Cond.code ({ cls := "java/lang/String", name := "charAt", desc := "(I)C" } : Jvm.MethodName) jdk_42_method_56_code (2 : Nat) (Option.some Jvm.ClassFile.FieldType.char)).before args0 about1 = true := code_word (m := ⟨7, 4⟩) (meth := k7m4) (c := k7c4) (by decide +kernel) rfl rfl rfl (by decide +kernel)
set_option maxRecDepth 65536 in
theorem w_c14 : (Jvm.Cond.code ({ cls := "java/lang/String", name := "isLatin1", desc := "()Z" } : Jvm.MethodName) jdk_42_method_154_code (1 : Nat) (Option.some Jvm.ClassFile.FieldType.boolean)).before args0 about1 = true := code_word (m := ⟨7, 8⟩) (meth := k7m8) (c := k7c8) (by decide +kernel) rfl rfl rfl (by decide +kernel)
set_option maxRecDepth 65536 in
theorem w_c15 : (Jvm.Cond.code ({ cls := "java/lang/StringLatin1", name := "charAt", desc := "([BI)C" } : Jvm.MethodName) jdk_43_method_2_code (2 : Nat) (Option.some Jvm.ClassFile.FieldType.char)).before args0 about1 = true := code_word (m := ⟨11, 1⟩) (meth := k11m1) (c := k11c1) (by decide +kernel) rfl rfl rfl (by decide +kernel)
set_option maxRecDepth 65536 in
theorem w_c16 : (Jvm.Cond.code ({ cls := "java/lang/String", name := "checkIndex", desc := "(II)V" } : Jvm.MethodName) jdk_42_method_155_code (2 : Nat) (Option.none : Option Jvm.ClassFile.FieldType)).before args0 about1 = true := code_word (m := ⟨7, 9⟩) (meth := k7m9) (c := k7c9) (by decide +kernel) rfl rfl rfl (by decide +kernel)
set_option maxRecDepth 65536 in
theorem w_c17 : (Jvm.Cond.code ({ cls := "jdk/internal/util/Preconditions", name := "checkIndex", desc := "(IILjava/util/function/BiFunction;)I" } : Jvm.MethodName) jdk_41_method_11_code (3 : Nat) (Option.some Jvm.ClassFile.FieldType.int)).before args0 about1 = true := code_word (m := ⟨12, 1⟩) (meth := k12m1) (c := k12c1) (by decide +kernel) rfl rfl rfl (by decide +kernel)
set_option maxRecDepth 65536 in
theorem w_c18 : (Jvm.Cond.code ({ cls := "com/example/salp/salp/model/EdgeType", name := "<init>", desc := "(Ljava/lang/String;)V" } : Jvm.MethodName) prog_7_method_1_code (2 : Nat) (Option.none : Option Jvm.ClassFile.FieldType)).before args0 about1 = true := code_word (m := ⟨9, 0⟩) (meth := k9m0) (c := k9c0) (by decide +kernel) rfl rfl rfl (by decide +kernel)
set_option maxRecDepth 65536 in
theorem w_c19 : (Jvm.Cond.code ({ cls := "com/example/salp/salp/model/EdgeType", name := "name", desc := "()Ljava/lang/String;" } : Jvm.MethodName) prog_7_method_3_code (1 : Nat) (Option.some (Jvm.ClassFile.FieldType.object "java/lang/String"))).before args0 about1 = true := code_word (m := ⟨9, 2⟩) (meth := k9m2) (c := k9c2) (by decide +kernel) rfl rfl rfl (by decide +kernel)
set_option maxRecDepth 65536 in
theorem w_c20 : (Jvm.Cond.code ({ cls := "java/lang/String", name := "equals", desc := "(Ljava/lang/Object;)Z" } : Jvm.MethodName) jdk_42_method_66_code (3 : Nat) (Option.some Jvm.ClassFile.FieldType.boolean)).before args0 about1 = true := code_word (m := ⟨7, 5⟩) (meth := k7m5) (c := k7c5) (by decide +kernel) rfl rfl rfl (by decide +kernel)
set_option maxRecDepth 65536 in
theorem w_c21 : (Jvm.Cond.code ({ cls := "com/example/salp/salp/model/EdgeType", name := "toString", desc := "()Ljava/lang/String;" } : Jvm.MethodName) prog_7_method_4_code (1 : Nat) (Option.some (Jvm.ClassFile.FieldType.object "java/lang/String"))).before args0 about1 = true := code_word (m := ⟨9, 3⟩) (meth := k9m3) (c := k9c3) (by decide +kernel) rfl rfl rfl (by decide +kernel)
def codes1 : List Jvm.Cond := [Jvm.Cond.code x code maxLocals ret, Jvm.Cond.code ({ cls := "com/example/salp/salp/model/EdgeTypeOfPinLaw", name := "ch", desc := "(I)C" } : Jvm.MethodName) method_2_code (2 : Nat) (Option.some Jvm.ClassFile.FieldType.char), Jvm.Cond.code ({ cls := "java/lang/String", name := "<init>", desc := "([C)V" } : Jvm.MethodName) jdk_42_method_3_code (2 : Nat) (Option.none : Option Jvm.ClassFile.FieldType), Jvm.Cond.code ({ cls := "java/lang/String", name := "<init>", desc := "([CIILjava/lang/Void;)V" } : Jvm.MethodName) jdk_42_method_149_code (6 : Nat) (Option.none : Option Jvm.ClassFile.FieldType), Jvm.Cond.code ({ cls := "java/lang/Object", name := "<init>", desc := "()V" } : Jvm.MethodName) object_method_1_code (1 : Nat) (Option.none : Option Jvm.ClassFile.FieldType), Jvm.Cond.code ({ cls := "java/lang/StringUTF16", name := "compress", desc := "([CII)[B" } : Jvm.MethodName) jdk_52_method_16_code (6 : Nat) (Option.some (Jvm.ClassFile.FieldType.array Jvm.ClassFile.FieldType.byte)), Jvm.Cond.code ({ cls := "java/lang/StringUTF16", name := "compress", desc := "([CI[BII)I" } : Jvm.MethodName) jdk_52_method_21_code (7 : Nat) (Option.some Jvm.ClassFile.FieldType.int), Jvm.Cond.code ({ cls := "java/lang/StringUTF16", name := "coderFromArrayLen", desc := "([BI)B" } : Jvm.MethodName) jdk_52_method_15_code (2 : Nat) (Option.some Jvm.ClassFile.FieldType.byte), Jvm.Cond.code ({ cls := "com/example/salp/salp/model/EdgeType", name := "of", desc := "(Ljava/lang/String;)Lcom/example/salp/salp/model/EdgeType;" } : Jvm.MethodName) prog_7_method_2_code (4 : Nat) (Option.some (Jvm.ClassFile.FieldType.object "com/example/salp/salp/model/EdgeType")), Jvm.Cond.code ({ cls := "java/util/Objects", name := "requireNonNull", desc := "(Ljava/lang/Object;Ljava/lang/String;)Ljava/lang/Object;" } : Jvm.MethodName) jdk_31_method_11_code (2 : Nat) (Option.some (Jvm.ClassFile.FieldType.object "java/lang/Object")), Jvm.Cond.code ({ cls := "java/lang/String", name := "isEmpty", desc := "()Z" } : Jvm.MethodName) jdk_42_method_55_code (1 : Nat) (Option.some Jvm.ClassFile.FieldType.boolean), Jvm.Cond.code ({ cls := "java/lang/String", name := "length", desc := "()I" } : Jvm.MethodName) jdk_42_method_54_code (1 : Nat) (Option.some Jvm.ClassFile.FieldType.int), Jvm.Cond.code ({ cls := "java/lang/String", name := "coder", desc := "()B" } : Jvm.MethodName) jdk_42_method_152_code (1 : Nat) (Option.some Jvm.ClassFile.FieldType.byte), Jvm.Cond.code ({ cls := "java/lang/String", name := "charAt", desc := "(I)C" } : Jvm.MethodName) jdk_42_method_56_code (2 : Nat) (Option.some Jvm.ClassFile.FieldType.char), Jvm.Cond.code ({ cls := "java/lang/String", name := "isLatin1", desc := "()Z" } : Jvm.MethodName) jdk_42_method_154_code (1 : Nat) (Option.some Jvm.ClassFile.FieldType.boolean), Jvm.Cond.code ({ cls := "java/lang/StringLatin1", name := "charAt", desc := "([BI)C" } : Jvm.MethodName) jdk_43_method_2_code (2 : Nat) (Option.some Jvm.ClassFile.FieldType.char), Jvm.Cond.code ({ cls := "java/lang/String", name := "checkIndex", desc := "(II)V" } : Jvm.MethodName) jdk_42_method_155_code (2 : Nat) (Option.none : Option Jvm.ClassFile.FieldType), Jvm.Cond.code ({ cls := "jdk/internal/util/Preconditions", name := "checkIndex", desc := "(IILjava/util/function/BiFunction;)I" } : Jvm.MethodName) jdk_41_method_11_code (3 : Nat) (Option.some Jvm.ClassFile.FieldType.int), Jvm.Cond.code ({ cls := "com/example/salp/salp/model/EdgeType", name := "<init>", desc := "(Ljava/lang/String;)V" } : Jvm.MethodName) prog_7_method_1_code (2 : Nat) (Option.none : Option Jvm.ClassFile.FieldType), Jvm.Cond.code ({ cls := "com/example/salp/salp/model/EdgeType", name := "name", desc := "()Ljava/lang/String;" } : Jvm.MethodName) prog_7_method_3_code (1 : Nat) (Option.some (Jvm.ClassFile.FieldType.object "java/lang/String")), Jvm.Cond.code ({ cls := "java/lang/String", name := "equals", desc := "(Ljava/lang/Object;)Z" } : Jvm.MethodName) jdk_42_method_66_code (3 : Nat) (Option.some Jvm.ClassFile.FieldType.boolean), Jvm.Cond.code ({ cls := "com/example/salp/salp/model/EdgeType", name := "toString", desc := "()Ljava/lang/String;" } : Jvm.MethodName) prog_7_method_4_code (1 : Nat) (Option.some (Jvm.ClassFile.FieldType.object "java/lang/String"))]
set_option maxRecDepth 65536 in
theorem codes_eq : words1.filter isCode = codes1 := rfl
theorem w_codes : ∀ c ∈ words1.filter isCode, c.before args0 about1 = true := by
  rw [codes_eq]
  intro c hc
  simp only [codes1, List.mem_cons, List.not_mem_nil, or_false] at hc
  rcases hc with rfl | rfl | rfl | rfl | rfl | rfl | rfl | rfl | rfl | rfl | rfl | rfl | rfl | rfl | rfl | rfl | rfl | rfl | rfl | rfl | rfl | rfl
  · exact w_c0
  · exact w_c1
  · exact w_c2
  · exact w_c3
  · exact w_c4
  · exact w_c5
  · exact w_c6
  · exact w_c7
  · exact w_c8
  · exact w_c9
  · exact w_c10
  · exact w_c11
  · exact w_c12
  · exact w_c13
  · exact w_c14
  · exact w_c15
  · exact w_c16
  · exact w_c17
  · exact w_c18
  · exact w_c19
  · exact w_c20
  · exact w_c21
set_option maxRecDepth 65536 in
theorem w_t1 : (words1.take 24).all (fun c => isCode c || c.before args0 about1) = true := by decide +kernel
set_option maxRecDepth 65536 in
theorem w_t2 : ((words1.drop 24).take 24).all (fun c => isCode c || c.before args0 about1) = true := by decide +kernel
set_option maxRecDepth 65536 in
theorem w_t3 : (((words1.drop 24).drop 24).take 24).all (fun c => isCode c || c.before args0 about1) = true := by decide +kernel
set_option maxRecDepth 65536 in
theorem w_t4 : ((((words1.drop 24).drop 24).drop 24).take 24).all (fun c => isCode c || c.before args0 about1) = true := by decide +kernel
set_option maxRecDepth 65536 in
theorem w_t5 : ((((words1.drop 24).drop 24).drop 24).drop 24).all (fun c => isCode c || c.before args0 about1) = true := by decide +kernel
theorem w_tables : (allAtoms (Jvm.Cond.code x code maxLocals ret :: tables_1)).before args0 about1 = true := by
  rw [allAtoms_all]
  show words1.all (fun c => c.before args0 about1) = true
  refine all_split ?_ w_codes
  rw [← List.take_append_drop 24 words1, List.all_append, w_t1, ← List.take_append_drop 24 (words1.drop 24), List.all_append, w_t2, ← List.take_append_drop 24 ((words1.drop 24).drop 24), List.all_append, w_t3, ← List.take_append_drop 24 (((words1.drop 24).drop 24).drop 24), List.all_append, w_t4, w_t5]
  rfl
set_option maxRecDepth 65536 in
theorem w_rest : rest_1_c.before args0 about1 = true := by decide +kernel
set_option maxRecDepth 65536 in
theorem w_case : (Jvm.Cond.and given_1 narrow_1).before args0 about1 = true := by decide +kernel
set_option maxRecDepth 65536 in
theorem w_consts : constsHeld consts_1 about1 := Jvm.Lit.constsHeldB_iff.mp (by decide +kernel)
theorem w_applies : (headSpec (Jvm.Cond.code x code maxLocals ret :: tables_1) room_1).applies x e0.platform about1 = true :=
  (Spec.applies_iff w_frames).mpr ⟨w_running, w_runnable, w_alone, w_named, w_hears, w_ripe, w_room, w_tables⟩
theorem atStart : AtStart classFile x code maxLocals ret World_1 tables_1 room_1 Calls_1 rest_1 Pre_1 launch0 p0 e0 about1 theMethod args0 below0 :=
  ⟨lists_1, trivial, launch0.admits_env _ _ _, launch0.least_env, fairChoices_fair.cas, fairChoices_fair.clock, w_frames, w_args, w_heap, w_applies, ⟨w_consts, trivial⟩, w_rest, w_case⟩
end start1
theorem witness_1 : WitnessClaimed_1 := ⟨start1.p0, start1.e0, start1.about1, start1.theMethod, start1.args0, start1.below0, start1.atStart⟩
end Jvm.Pilot.@@N@@
