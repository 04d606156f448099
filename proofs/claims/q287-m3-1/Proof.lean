import JvmDerived
import JvmDerived.Pilot.@@N@@Statement
import JvmDerived.Pilot.@@N@@Code
set_option linter.unusedVariables false
set_option linter.unusedSimpArgs false
@@BLOCK:NumsL.lean.txt@@
/- laws to paste: Road.backV, Road.lenW, Road.chN, Road.codOf (cut by pick.py; bodies as the Statement names them) -/
namespace Jvm.Pilot.@@N@@
namespace StrChars
open Jvm Sem ClassFile Op Lib Jvm.Stand Jvm.Free.XT Jvm.Free.ALB Jvm.Free.JM Jvm.Free
open Jvm.Lib.Cold (StaticIs)
/-- a char array whose places are chars -/
def Ch (a : Addr) (A : Cell) (U : State) : Prop := Arr .char a A U ∧ Typed .char A
theorem Ch.mv {a : Addr} {A : Cell} {U U' : State} (h : Ch a A U) (hal : U.vm.Alike U'.vm) (hh : U'.heap = U.heap) : Ch a A U' := ⟨h.1.mv hal hh, h.2⟩
theorem Ch.keep {a : Addr} {A : Cell} {U U' : State} (h : Ch a A U) (hal : U.vm.Alike U'.vm) (hk : U'.heap[a]? = some A) : Ch a A U' := ⟨h.1.keep hal hk, h.2⟩
/-- what place i of a char[]'s cell holds -/
def cv (A : Cell) (i : Nat) : Int32 := match A.slots[i]? with | some (.int x) => x | _ => 0
theorem Ch.get {a : Addr} {A : Cell} {U : State} (h : Ch a A U) {i : Nat} (hi : i < A.slots.size) : A.slots[i]? = some (.int (cv A i)) := by
  have e := Array.getElem?_eq_getElem hi
  have f := h.2 i _ e
  unfold cv; rw [e]
  generalize A.slots[i] = v at f
  cases v <;> simp [fits] at f ⊢
/-- the byte that i2b leaves of a char -/
def lo8 (x : Int32) : Int32 := x.toInt8.toInt32
theorem fits_lo8 (y : Int32) : fits .byte (.int (lo8 y)) = true := by
  have h1 := y.toInt8.le_toInt
  have h2 := y.toInt8.toInt_lt
  simp only [lo8, fits, Bool.and_eq_true, decide_eq_true_eq, Int32.le_iff_toInt_le, Int8.toInt_toInt32, show (-128 : Int32).toInt = -128 from by decide, show (127 : Int32).toInt = 127 from by decide]
  omega
/-- A' is A but that each place j of lo .. hi - 1 holds f j -/
def Laid (A A' : Cell) (lo hi : Nat) (f : Nat → Value) : Prop := A'.cls = A.cls ∧ A'.vm = A.vm ∧ A'.slots.size = A.slots.size ∧ ∀ i, A'.slots[i]? = if lo ≤ i ∧ i < hi then some (f i) else A.slots[i]?
theorem Laid.zero (A : Cell) (lo : Nat) (f : Nat → Value) : Laid A A lo (lo + 0) f := ⟨rfl, rfl, rfl, fun i => by rw [if_neg (by omega)]⟩
theorem Laid.step {A Ak : Cell} {lo k : Nat} {f : Nat → Value} {v : Value} (h : Laid A Ak lo k f) (hlo : lo ≤ k) (hk : k < Ak.slots.size) (hv : v = f k) : Laid A (Ak.setSlot k v) lo (k + 1) f := by
  refine ⟨h.1, h.2.1, by simpa [Cell.setSlot] using h.2.2.1, fun i => ?_⟩
  by_cases e : k = i
  · subst e; rw [Cell.slots_setSlot_self v hk, if_pos (by omega), hv]
  · rw [Cell.slots_setSlot_ne v e, h.2.2.2 i]
    by_cases q : lo ≤ i ∧ i < k
    · rw [if_pos q, if_pos (by omega)]
    · rw [if_neg q, if_neg (by omega)]
def U16 : String := "java/lang/StringUTF16"
namespace Cmp5
def yN : MethodName := ⟨"java/lang/StringUTF16", "compress", "([CI[BII)I"⟩
abbrev yB : ByteArray := jdk_52_method_21_code
theorem d0 : decode yB 0 = .ok (.iconst 0, 1) := by decide +kernel
theorem d1 : decode yB 1 = .ok (.istore 5, 2) := by decide +kernel
theorem d3 : decode yB 3 = .ok (.iload 5, 2) := by decide +kernel
theorem d5 : decode yB 5 = .ok (.iload 4, 2) := by decide +kernel
theorem d7 : decode yB 7 = .ok (.if_icmp (.ge) 37, 3) := by decide +kernel
theorem d10 : decode yB 10 = .ok (.aload_n 0, 1) := by decide +kernel
theorem d11 : decode yB 11 = .ok (.iload_n 1, 1) := by decide +kernel
theorem d12 : decode yB 12 = .ok (.caload, 1) := by decide +kernel
theorem d13 : decode yB 13 = .ok (.istore 6, 2) := by decide +kernel
theorem d15 : decode yB 15 = .ok (.iload 6, 2) := by decide +kernel
theorem d17 : decode yB 17 = .ok (.sipush 255, 3) := by decide +kernel
theorem d20 : decode yB 20 = .ok (.if_icmp (.le) 6, 3) := by decide +kernel
theorem d26 : decode yB 26 = .ok (.aload_n 2, 1) := by decide +kernel
theorem d27 : decode yB 27 = .ok (.iload_n 3, 1) := by decide +kernel
theorem d28 : decode yB 28 = .ok (.iload 6, 2) := by decide +kernel
theorem d30 : decode yB 30 = .ok (.i2b, 1) := by decide +kernel
theorem d31 : decode yB 31 = .ok (.bastore, 1) := by decide +kernel
theorem d32 : decode yB 32 = .ok (.iinc 1 1, 3) := by decide +kernel
theorem d35 : decode yB 35 = .ok (.iinc 3 1, 3) := by decide +kernel
theorem d38 : decode yB 38 = .ok (.iinc 5 1, 3) := by decide +kernel
theorem d41 : decode yB 41 = .ok (.goto (-38), 3) := by decide +kernel
theorem d44 : decode yB 44 = .ok (.iload 4, 2) := by decide +kernel
theorem d46 : decode yB 46 = .ok (.ireturn, 1) := by decide +kernel
def site : List Cond := []
def tab : Cond := tabOf yN yB 7 (some .int) site
def P (b : Addr) (A : Cell) (d : Addr) (B : Cell) (o q len : Nat) (args : Array Value) (s : State) : Prop := args = #[.ref b, .int (Int32.ofNat o), .ref d, .int (Int32.ofNat q), .int (Int32.ofNat len)] ∧ Ch b A s ∧ Arr .byte d B s ∧ b ≠ d ∧ o + len ≤ A.slots.size ∧ q + len ≤ B.slots.size ∧ ∀ i, i < len → ¬ 255 < cv A (o + i)
def E (b : Addr) (A : Cell) (d : Addr) (B : Cell) (o q len : Nat) (r : Option Value) (s u : State) : Prop := r = some (.int (Int32.ofNat len)) ∧ ∃ B', Put d B' s u ∧ Laid B B' q (q + len) (fun j => Value.int (lo8 (cv A (o + (j - q)))))
/-- no char of the range above 255: len; the places written hold each char's low byte -/
theorem law (l : Launch) (b : Addr) (A : Cell) (d : Addr) (B : Cell) (o q len : Nat) : Law l yN 5 5 0 0 yB 7 (some .int) site (P b A d B o q len) (E b A d B o q len) (copyLocs d q len) 0 0 := by
  refine Law.of_walk (plainFor_of_name (by decide +kernel)) (by decide +kernel) (by decide +kernel) (by decide) (fun _ _ h => by rw [h.1]; rfl) (fun _ U U' hal hh h => ⟨h.1, h.2.1.mv hal hh, h.2.2.1.mv hal hh, h.2.2.2⟩) (fun r U U' V V' h1 hal h2 h => ⟨h.1, h.2.elim fun B' q => ⟨B', q.1.mv h1 h2, q.2⟩⟩) ?_
  intro p e s m args below meth c s₁ X0 hexec hbytes hml hret hlk hnm hown hh0 W hP
  obtain ⟨rfl, hA, hB, hne, l1, l2, hp⟩ := hP
  have c1 : Steps p.tables e below (s₁.setTop (entryFrame m #[.ref b, .int (Int32.ofNat o), .ref d, .int (Int32.ofNat q), .int (Int32.ofNat len)] 7)) (s₁.setTop (mkF m 0 #[.val (.ref b), .val (.int (Int32.ofNat o)), .val (.ref d), .val (.int (Int32.ofNat q)), .val (.int (Int32.ofNat len)), .unset, .unset] [])) := entry rfl
  have hA0 := hA.1.mv X0.warmed.alike hh0
  have hB0 := hB.mv X0.warmed.alike hh0
  have a31 := hA.1.2.2.2
  have c2 : Steps p.tables e below (s₁.setTop (entryFrame m #[.ref b, .int (Int32.ofNat o), .ref d, .int (Int32.ofNat q), .int (Int32.ofNat len)] 7)) (s₁.setTop (mkF m 3 #[.val (.ref b), .val (.int (Int32.ofNat o)), .val (.ref d), .val (.int (Int32.ofNat q)), .val (.int (Int32.ofNat len)), .val (.int 0), .unset] [])) := c1.trans (by
    refine iconstV X0.here hexec rfl 0 (hb hbytes d0) (by decide) ?_
    refine XS.istore X0.here hexec rfl (hb hbytes d1) rfl rfl ?_
    exact Steps.refl _)
  have loop : ∀ (r i : Nat), i + r = len → ∀ (z : Slot), (z = .unset ∨ ∃ w, z = .val w ∧ w.category = 1) → ∀ (Tl : State) (Bk : Cell), Stand p l e { frames := 0, locals := 0, cells := 0, slots := 0 } s m #[.ref b, .int (Int32.ofNat o), .ref d, .int (Int32.ofNat q), .int (Int32.ofNat len)] below meth c Tl ([] ++ copyLocs d q i) 0 0 → Put d Bk s₁ Tl → Laid B Bk q (q + i) (fun j => Value.int (lo8 (cv A (o + (j - q))))) →
      Steps p.tables e below (s₁.setTop (entryFrame m #[.ref b, .int (Int32.ofNat o), .ref d, .int (Int32.ofNat q), .int (Int32.ofNat len)] 7)) (Tl.setTop (mkF m 3 #[.val (.ref b), .val (.int (Int32.ofNat (o + i))), .val (.ref d), .val (.int (Int32.ofNat (q + i))), .val (.int (Int32.ofNat len)), .val (.int (Int32.ofNat i)), z] [])) → ∃ (T' : State) (B' : Cell) (z' : Slot), Stand p l e { frames := 0, locals := 0, cells := 0, slots := 0 } s m #[.ref b, .int (Int32.ofNat o), .ref d, .int (Int32.ofNat q), .int (Int32.ofNat len)] below meth c T' ([] ++ copyLocs d q len) 0 0 ∧ Put d B' s₁ T' ∧ Laid B B' q (q + len) (fun j => Value.int (lo8 (cv A (o + (j - q))))) ∧
      Steps p.tables e below (s₁.setTop (entryFrame m #[.ref b, .int (Int32.ofNat o), .ref d, .int (Int32.ofNat q), .int (Int32.ofNat len)] 7)) (T'.setTop (mkF m 3 #[.val (.ref b), .val (.int (Int32.ofNat (o + len))), .val (.ref d), .val (.int (Int32.ofNat (q + len))), .val (.int (Int32.ofNat len)), .val (.int (Int32.ofNat len)), z'] [])) := by
    intro r
    induction r with
    | zero =>
      intro i hi z hz Tl Bk Xl pl fl cl
      have hil : i = len := by omega
      rw [hil] at Xl fl cl
      exact ⟨Tl, Bk, z, Xl, pl, fl, cl⟩
    | succ r ih =>
      intro i hi z hz Tl Bk Xl pl fl cl
      have all := X0.warmed.alike.symm.trans Xl.warmed.alike
      have hAl := hA0.keep all (pl.other hne hA0.1)
      have hBk := hB0.like all pl.1 fl.1 fl.2.1 fl.2.2.1
      have hlt : q + i < Bk.slots.size := by rw [fl.2.2.1]; omega
      have c3 : Steps p.tables e below (s₁.setTop (entryFrame m #[.ref b, .int (Int32.ofNat o), .ref d, .int (Int32.ofNat q), .int (Int32.ofNat len)] 7)) (Tl.setTop (mkF m 12 #[.val (.ref b), .val (.int (Int32.ofNat (o + i))), .val (.ref d), .val (.int (Int32.ofNat (q + i))), .val (.int (Int32.ofNat len)), .val (.int (Int32.ofNat i)), z] [.int (Int32.ofNat (o + i)), .ref b])) := cl.trans (by
        refine XS.iload Xl.here hexec rfl (hb hbytes d3) rfl ?_
        refine XS.iload Xl.here hexec rfl (hb hbytes d5) rfl ?_
        refine XS.icmpNo Xl.here hexec rfl (hb hbytes d7) rfl (ii_ge_f (lt32 (by omega) (by omega))) ?_
        refine XS.aloadN Xl.here hexec rfl (hb hbytes d10) rfl rfl ?_
        refine XS.iloadN Xl.here hexec rfl (hb hbytes d11) rfl ?_
        exact Steps.refl _)
      have c4 : Steps p.tables e below (s₁.setTop (entryFrame m #[.ref b, .int (Int32.ofNat o), .ref d, .int (Int32.ofNat q), .int (Int32.ofNat len)] 7)) (Tl.setTop (mkF m 13 #[.val (.ref b), .val (.int (Int32.ofNat (o + i))), .val (.ref d), .val (.int (Int32.ofNat (q + i))), .val (.int (Int32.ofNat len)), .val (.int (Int32.ofNat i)), z] [.int (cv A (o + i))])) := c3.trans (by
        refine Xl.aget hexec hAl rfl (hA.get (i := o + i) (by omega)) rfl rfl (hb hbytes d12) ?_
        exact Steps.refl _)
      have c5 : Steps p.tables e below (s₁.setTop (entryFrame m #[.ref b, .int (Int32.ofNat o), .ref d, .int (Int32.ofNat q), .int (Int32.ofNat len)] 7)) (Tl.setTop (mkF m 15 #[.val (.ref b), .val (.int (Int32.ofNat (o + i))), .val (.ref d), .val (.int (Int32.ofNat (q + i))), .val (.int (Int32.ofNat len)), .val (.int (Int32.ofNat i)), .val (.int (cv A (o + i)))] [])) := c4.trans (by
        refine XS.istoreS Xl.here hexec rfl (hb hbytes d13) rfl rfl hz ?_
        exact Steps.refl _)
      have c6 : Steps p.tables e below (s₁.setTop (entryFrame m #[.ref b, .int (Int32.ofNat o), .ref d, .int (Int32.ofNat q), .int (Int32.ofNat len)] 7)) (Tl.setTop (mkF m 31 #[.val (.ref b), .val (.int (Int32.ofNat (o + i))), .val (.ref d), .val (.int (Int32.ofNat (q + i))), .val (.int (Int32.ofNat len)), .val (.int (Int32.ofNat i)), .val (.int (cv A (o + i)))] [.int (lo8 (cv A (o + i))), .int (Int32.ofNat (q + i)), .ref d])) := c5.trans (by
        refine XS.iload Xl.here hexec rfl (hb hbytes d15) rfl ?_
        refine sipushV Xl.here hexec rfl 255 (hb hbytes d17) (by decide) ?_
        refine XS.icmpYes Xl.here hexec rfl (pc0 := 20) rfl (hb hbytes d20) rfl (ii_le_t (hp i (by omega))) (by decide) rfl ?_
        refine XS.aloadN Xl.here hexec rfl (hb hbytes d26) rfl rfl ?_
        refine XS.iloadN Xl.here hexec rfl (hb hbytes d27) rfl ?_
        refine XS.iload Xl.here hexec rfl (hb hbytes d28) rfl ?_
        refine i2b Xl.here hexec rfl (hb hbytes d30) rfl ?_
        exact Steps.refl _)
      obtain ⟨T7, X7, p7, st7⟩ := Xl.aput hexec hBk rfl hlt rfl (fits_lo8 (cv A (o + i))) (g := (mkF m 31 #[.val (.ref b), .val (.int (Int32.ofNat (o + i))), .val (.ref d), .val (.int (Int32.ofNat (q + i))), .val (.int (Int32.ofNat len)), .val (.int (Int32.ofNat i)), .val (.int (cv A (o + i)))] [.int (lo8 (cv A (o + i))), .int (Int32.ofNat (q + i)), .ref d])) rfl (rest := []) rfl (hb hbytes d31)
      have c8 : Steps p.tables e below (s₁.setTop (entryFrame m #[.ref b, .int (Int32.ofNat o), .ref d, .int (Int32.ofNat q), .int (Int32.ofNat len)] 7)) (T7.setTop (mkF m 32 #[.val (.ref b), .val (.int (Int32.ofNat (o + i))), .val (.ref d), .val (.int (Int32.ofNat (q + i))), .val (.int (Int32.ofNat len)), .val (.int (Int32.ofNat i)), .val (.int (cv A (o + i)))] [])) := c6.trans (st7 _ (Steps.refl _))
      have c9 : Steps p.tables e below (s₁.setTop (entryFrame m #[.ref b, .int (Int32.ofNat o), .ref d, .int (Int32.ofNat q), .int (Int32.ofNat len)] 7)) (T7.setTop (mkF m 3 #[.val (.ref b), .val (.int (Int32.ofNat (o + i) + 1)), .val (.ref d), .val (.int (Int32.ofNat (q + i) + 1)), .val (.int (Int32.ofNat len)), .val (.int (Int32.ofNat i + 1)), .val (.int (cv A (o + i)))] [])) := c8.trans (by
        refine iincV X7.here hexec rfl 1 (hb hbytes d32) (by decide) rfl rfl ?_
        refine iincV X7.here hexec rfl 1 (hb hbytes d35) (by decide) rfl rfl ?_
        refine iincV X7.here hexec rfl 1 (hb hbytes d38) (by decide) rfl rfl ?_
        refine XS.goto X7.here hexec rfl (pc0 := 41) rfl (hb hbytes d41) (by decide) rfl ?_
        exact Steps.refl _)
      have c10 : Steps p.tables e below (s₁.setTop (entryFrame m #[.ref b, .int (Int32.ofNat o), .ref d, .int (Int32.ofNat q), .int (Int32.ofNat len)] 7)) (T7.setTop (mkF m 3 #[.val (.ref b), .val (.int (Int32.ofNat (o + (i + 1)))), .val (.ref d), .val (.int (Int32.ofNat (q + (i + 1)))), .val (.int (Int32.ofNat len)), .val (.int (Int32.ofNat (i + 1))), .val (.int (cv A (o + i)))] [])) := by
        have := c9
        rw [succ32, succ32, succ32] at this
        exact this
      exact ih (i + 1) (by omega) _ (Or.inr ⟨_, rfl, rfl⟩) T7 _ (by rw [copyLocs_step, ← List.append_assoc]; exact X7) (pl.trans p7) (fl.step (by omega) hlt (by simp)) c10
  obtain ⟨T9, B9, z9, X9, p9, f9, g9⟩ := loop len 0 (by omega) .unset (Or.inl rfl) s₁ B (by simpa [copyLocs] using X0) ⟨hB0.1, fun _ _ => rfl, rfl⟩ (Laid.zero _ _ _) c2
  have c11 : Steps p.tables e below (s₁.setTop (entryFrame m #[.ref b, .int (Int32.ofNat o), .ref d, .int (Int32.ofNat q), .int (Int32.ofNat len)] 7)) (T9.setTop (mkF m 46 #[.val (.ref b), .val (.int (Int32.ofNat (o + len))), .val (.ref d), .val (.int (Int32.ofNat (q + len))), .val (.int (Int32.ofNat len)), .val (.int (Int32.ofNat len)), z9] [.int (Int32.ofNat len)])) := g9.trans (by
    refine XS.iload X9.here hexec rfl (hb hbytes d3) rfl ?_
    refine XS.iload X9.here hexec rfl (hb hbytes d5) rfl ?_
    refine XS.icmpYes X9.here hexec rfl (pc0 := 7) rfl (hb hbytes d7) rfl (ii_ge_t (nlt32 (by omega) (Nat.le_refl _))) (by decide) rfl ?_
    refine XS.iload X9.here hexec rfl (hb hbytes d44) rfl ?_
    exact Steps.refl _)
  exact ⟨T9, some (.int (Int32.ofNat len)), _, _, _, X9, by simp, rfl, rfl, (fun h => by cases h), ⟨rfl, B9, p9.from hh0, f9⟩, fun fs hl => c11.trans (X9.ireturnOut hexec hret rfl (Or.inl rfl) (hb hbytes d46) hl)⟩
end Cmp5
namespace Cmp3
def yN : MethodName := ⟨"java/lang/StringUTF16", "compress", "([CII)[B"⟩
abbrev yB : ByteArray := jdk_52_method_16_code
theorem d0 : decode yB 0 = .ok (.iload_n 2, 1) := by decide +kernel
theorem d1 : decode yB 1 = .ok (.newarray .byte, 2) := by decide +kernel
theorem d3 : decode yB 3 = .ok (.astore_n 3, 1) := by decide +kernel
theorem d4 : decode yB 4 = .ok (.aload_n 0, 1) := by decide +kernel
theorem d5 : decode yB 5 = .ok (.iload_n 1, 1) := by decide +kernel
theorem d6 : decode yB 6 = .ok (.aload_n 3, 1) := by decide +kernel
theorem d7 : decode yB 7 = .ok (.iconst 0, 1) := by decide +kernel
theorem d8 : decode yB 8 = .ok (.iload_n 2, 1) := by decide +kernel
theorem d9 : decode yB 9 = .ok (.invokestatic 115, 3) := by decide +kernel
theorem d12 : decode yB 12 = .ok (.istore 4, 2) := by decide +kernel
theorem d14 : decode yB 14 = .ok (.iload 4, 2) := by decide +kernel
theorem d16 : decode yB 16 = .ok (.iload_n 2, 1) := by decide +kernel
theorem d17 : decode yB 17 = .ok (.if_icmp (.eq) 40, 3) := by decide +kernel
theorem d57 : decode yB 57 = .ok (.aload_n 3, 1) := by decide +kernel
theorem d58 : decode yB 58 = .ok (.areturn, 1) := by decide +kernel
def site : List Cond := [.arrayClass .byte, Cmp5.tab] ++ staticW U16 115 Cmp5.yN
def tab : Cond := tabOf yN yB 6 (some (.array .byte)) site
def P (b : Addr) (A : Cell) (o len : Nat) (args : Array Value) (s : State) : Prop := args = #[.ref b, .int (Int32.ofNat o), .int (Int32.ofNat len)] ∧ Ch b A s ∧ o + len ≤ A.slots.size ∧ len ≤ 536870912 ∧ ∀ i, i < len → ¬ 255 < cv A (o + i)
def E (b : Addr) (A : Cell) (o len : Nat) (r : Option Value) (s u : State) : Prop := NewArr .byte "[B" len (fun j => .int (lo8 (cv A (o + j)))) r s u ∧ u.heap.size = s.heap.size + 1
/-- no char of the range above 255: a new byte[] of their low bytes -/
theorem law (l : Launch) (b : Addr) (A : Cell) (o len : Nat) : Law l yN 3 3 1 18 yB 6 (some (.array .byte)) site (P b A o len) (E b A o len) [] 1 len := by
  refine Law.of_walk (plainFor_of_name (by decide +kernel)) (by decide +kernel) (by decide +kernel) (by decide) (fun _ _ h => by rw [h.1]; rfl) (fun _ U U' hal hh h => ⟨h.1, h.2.1.mv hal hh, h.2.2⟩) (fun r U U' V V' h1 hal h2 h => ⟨NewArr.mv r U U' V V' h1 hal h2 h.1, by rw [h1, h2]; exact h.2⟩) ?_
  intro p e s m args below meth c s₁ X0 hexec hbytes hml hret hlk hnm hown hh0 W hP
  obtain ⟨rfl, hA, l1, l2, hp⟩ := hP
  have a31 := hA.1.2.2.2
  have c1 : Steps p.tables e below (s₁.setTop (entryFrame m #[.ref b, .int (Int32.ofNat o), .int (Int32.ofNat len)] 6)) (s₁.setTop (mkF m 0 #[.val (.ref b), .val (.int (Int32.ofNat o)), .val (.int (Int32.ofNat len)), .unset, .unset, .unset] [])) := entry rfl
  have c2 : Steps p.tables e below (s₁.setTop (entryFrame m #[.ref b, .int (Int32.ofNat o), .int (Int32.ofNat len)] 6)) (s₁.setTop (mkF m 1 #[.val (.ref b), .val (.int (Int32.ofNat o)), .val (.int (Int32.ofNat len)), .unset, .unset, .unset] [.int (Int32.ofNat len)])) := c1.trans (by
    refine XS.iloadN X0.here hexec rfl (hb hbytes d0) rfl ?_
    exact Steps.refl _)
  obtain ⟨T3, B3, X3, ba3, bs3, bv3, bh3, bf3, st3⟩ := X0.anew hexec (atype := .byte) (wk W (.arrayClass .byte)) rfl (by show len * 1 ≤ _; omega) (by omega) (g := (mkF m 1 #[.val (.ref b), .val (.int (Int32.ofNat o)), .val (.int (Int32.ofNat len)), .unset, .unset, .unset] [.int (Int32.ofNat len)])) rfl (hb hbytes d1) (rest := []) rfl (Nat.le_refl _) (by show 0 + len ≤ len; omega)
  rw [hh0] at ba3 st3
  have kp3 : XT.Kept s T3 := (XT.Kept.of_eq hh0).push bh3
  have hA3 := hA.keep X3.warmed.alike (kp3 _ _ hA.1.1)
  have hne : b ≠ s.heap.size := hA.1.ne
  have c4 : Steps p.tables e below (s₁.setTop (entryFrame m #[.ref b, .int (Int32.ofNat o), .int (Int32.ofNat len)] 6)) (T3.setTop (mkF m 3 #[.val (.ref b), .val (.int (Int32.ofNat o)), .val (.int (Int32.ofNat len)), .unset, .unset, .unset] [.ref s.heap.size])) := c2.trans (st3 _ (Steps.refl _))
  have c5 : Steps p.tables e below (s₁.setTop (entryFrame m #[.ref b, .int (Int32.ofNat o), .int (Int32.ofNat len)] 6)) (T3.setTop (mkF m 9 #[.val (.ref b), .val (.int (Int32.ofNat o)), .val (.int (Int32.ofNat len)), .val (.ref s.heap.size), .unset, .unset] [.int (Int32.ofNat len), .int 0, .ref s.heap.size, .int (Int32.ofNat o), .ref b])) := c4.trans (by
    refine XS.astoreN X3.here hexec rfl (hb hbytes d3) rfl rfl rfl ?_
    refine XS.aloadN X3.here hexec rfl (hb hbytes d4) rfl rfl ?_
    refine XS.iloadN X3.here hexec rfl (hb hbytes d5) rfl ?_
    refine XS.aloadN X3.here hexec rfl (hb hbytes d6) rfl rfl ?_
    refine iconstV X3.here hexec rfl 0 (hb hbytes d7) (by decide) ?_
    refine XS.iloadN X3.here hexec rfl (hb hbytes d8) rfl ?_
    exact Steps.refl _)
  obtain ⟨v6, T6, X6, E6, g6⟩ := X3.callS hexec (Cmp5.law l b A s.heap.size B3 o 0 len) hown (wks W (staticW U16 115 Cmp5.yN)) (wk W Cmp5.tab) (W := 0) (Nat.le_of_ble_eq_true rfl) (Nat.le_of_ble_eq_true rfl) (Nat.le_refl _) (by show 0 + len + 0 ≤ len; omega) (g := (mkF m 9 #[.val (.ref b), .val (.int (Int32.ofNat o)), .val (.int (Int32.ofNat len)), .val (.ref s.heap.size), .unset, .unset] [.int (Int32.ofNat len), .int (Int32.ofNat 0), .ref s.heap.size, .int (Int32.ofNat o), .ref b])) rfl (by rw [hml]; rfl) c5 (argsL := [.ref b, .int (Int32.ofNat o), .ref s.heap.size, .int (Int32.ofNat 0), .int (Int32.ofNat len)]) (rest := []) rfl rfl (by show 2 * 0 + 0 ≤ _; decide) (hb hbytes d9) (⟨rfl, hA3, ba3, hne, l1, by rw [bs3]; simp, hp⟩)
  obtain ⟨rfl, B6, p6, f6⟩ := E6
  have c7 : Steps p.tables e below (s₁.setTop (entryFrame m #[.ref b, .int (Int32.ofNat o), .int (Int32.ofNat len)] 6)) (T6.setTop (mkF m 12 #[.val (.ref b), .val (.int (Int32.ofNat o)), .val (.int (Int32.ofNat len)), .val (.ref s.heap.size), .unset, .unset] [.int (Int32.ofNat len)])) := g6
  have c8 : Steps p.tables e below (s₁.setTop (entryFrame m #[.ref b, .int (Int32.ofNat o), .int (Int32.ofNat len)] 6)) (T6.setTop (mkF m 58 #[.val (.ref b), .val (.int (Int32.ofNat o)), .val (.int (Int32.ofNat len)), .val (.ref s.heap.size), .val (.int (Int32.ofNat len)), .unset] [.ref s.heap.size])) := c7.trans (by
    refine XS.istore X6.here hexec rfl (hb hbytes d12) rfl rfl ?_
    refine XS.iload X6.here hexec rfl (hb hbytes d14) rfl ?_
    refine XS.iloadN X6.here hexec rfl (hb hbytes d16) rfl ?_
    refine XS.icmpYes X6.here hexec rfl (pc0 := 17) rfl (hb hbytes d17) rfl (ii_eq_t rfl) (by decide) rfl ?_
    refine XS.aloadN X6.here hexec rfl (hb hbytes d57) rfl rfl ?_
    exact Steps.refl _)
  have X8 := X6.wide (L' := []) (cells' := 1) (slots' := len) (fun x hx hlt => by
    simp only [List.nil_append, copyLocs, List.mem_map, List.mem_range] at hx
    obtain ⟨i, -, rfl⟩ := hx
    exact absurd hlt (Nat.lt_irrefl _)) (Nat.le_refl _) (by omega)
  exact ⟨T6, some (.ref s.heap.size), _, _, _, X8, rfl, rfl, rfl, (fun h => by cases h), ⟨⟨rfl, B6, ba3.like (X3.warmed.alike.symm.trans X6.warmed.alike) p6.1 f6.1 f6.2.1 f6.2.2.1, f6.2.1.trans bv3, by rw [X6.warmed.alike.findClass, f6.1]; exact bf3, by rw [f6.2.2.1, bs3]; simp, fun j hj => by rw [f6.2.2.2 j, if_pos (by omega)]; rfl, kp3.put p6 (Nat.le_refl _)⟩, by rw [p6.2.2, bh3, hh0]; simp⟩, fun fs hl => c8.trans (X8.areturnOut hexec rfl hret rfl (hb hbytes d58) hl)⟩
end Cmp3
namespace CodL
def yN : MethodName := ⟨"java/lang/StringUTF16", "coderFromArrayLen", "([BI)B"⟩
abbrev yB : ByteArray := jdk_52_method_15_code
theorem d0 : decode yB 0 = .ok (.iload_n 1, 1) := by decide +kernel
theorem d1 : decode yB 1 = .ok (.aload_n 0, 1) := by decide +kernel
theorem d2 : decode yB 2 = .ok (.arraylength, 1) := by decide +kernel
theorem d3 : decode yB 3 = .ok (.isub, 1) := by decide +kernel
theorem d4 : decode yB 4 = .ok (.bipush 31, 2) := by decide +kernel
theorem d6 : decode yB 6 = .ok (.iushr, 1) := by decide +kernel
theorem d7 : decode yB 7 = .ok (.i2b, 1) := by decide +kernel
theorem d8 : decode yB 8 = .ok (.ireturn, 1) := by decide +kernel
def site : List Cond := []
def tab : Cond := tabOf yN yB 2 (some .byte) site
def P (d : Addr) (B : Cell) (args : Array Value) (s : State) : Prop := args = #[.ref d, .int (Int32.ofNat B.slots.size)] ∧ Arr .byte d B s
def E (r : Option Value) (s u : State) : Prop := XT.PureE (some (.int 0)) r s u
/-- an array as long as the number of chars: LATIN1 -/
theorem law (l : Launch) (d : Addr) (B : Cell) : Law l yN 2 2 0 0 yB 2 (some .byte) site (P d B) E [] 0 0 := by
  refine Law.of_walk (plainFor_of_name (by decide +kernel)) (by decide +kernel) (by decide +kernel) (by decide) (fun _ _ h => by rw [h.1]; rfl) (fun _ U U' hal hh h => ⟨h.1, h.2.mv hal hh⟩) (fun r U U' V V' h1 hal h2 h => XT.PureE.mv r U U' V V' h1 hal h2 h) ?_
  intro p e s m args below meth c s₁ X0 hexec hbytes hml hret hlk hnm hown hh0 W hP
  obtain ⟨rfl, hB⟩ := hP
  have hB0 := hB.mv X0.warmed.alike hh0
  have c1 : Steps p.tables e below (s₁.setTop (entryFrame m #[.ref d, .int (Int32.ofNat B.slots.size)] 2)) (s₁.setTop (mkF m 0 #[.val (.ref d), .val (.int (Int32.ofNat B.slots.size))] [])) := entry rfl
  have c2 : Steps p.tables e below (s₁.setTop (entryFrame m #[.ref d, .int (Int32.ofNat B.slots.size)] 2)) (s₁.setTop (mkF m 2 #[.val (.ref d), .val (.int (Int32.ofNat B.slots.size))] [.ref d, .int (Int32.ofNat B.slots.size)])) := c1.trans (by
    refine XS.iloadN X0.here hexec rfl (hb hbytes d0) rfl ?_
    refine XS.aloadN X0.here hexec rfl (hb hbytes d1) rfl rfl ?_
    exact Steps.refl _)
  have c3 : Steps p.tables e below (s₁.setTop (entryFrame m #[.ref d, .int (Int32.ofNat B.slots.size)] 2)) (s₁.setTop (mkF m 8 #[.val (.ref d), .val (.int (Int32.ofNat B.slots.size))] [.int (lo8 (ushr (Int32.ofNat B.slots.size - Int32.ofNat B.slots.size) 31))])) := c2.trans (by
    refine X0.alen hexec hB0 rfl rfl (hb hbytes d2) ?_
    refine XS.isub X0.here hexec rfl (hb hbytes d3) rfl ?_
    refine bipushV X0.here hexec rfl 31 (hb hbytes d4) (by decide) ?_
    refine iushr X0.here hexec rfl (hb hbytes d6) rfl ?_
    refine i2b X0.here hexec rfl (hb hbytes d7) rfl ?_
    exact Steps.refl _)
  have e0 : lo8 (ushr (Int32.ofNat B.slots.size - Int32.ofNat B.slots.size) 31) = 0 := by rw [Int32.sub_self]; decide
  rw [e0] at c3
  exact ⟨s₁, some (.int 0), _, _, _, X0, rfl, rfl, rfl, (fun h => by cases h), ⟨rfl, hh0⟩, fun fs hl => c3.trans (X0.ireturnOut hexec hret rfl (Or.inr (Or.inr (Or.inl rfl))) (hb hbytes d8) hl)⟩
end CodL
/-- the String at a is Latin-1 over a new byte[] (the heap's one new cell): the low bytes of the len chars of A from o on; every cell but a is kept -/
def Got (a : Addr) (D : Cell) (fV fC : Field) (A : Cell) (o len : Nat) (r : Option Value) (s u : State) : Prop := r = none ∧ ∃ D' V : Cell, Blank "java/lang/String" a D' u ∧ Same D D' [fV.slot, fC.slot] ∧ D'.slots[fV.slot]? = some (.ref s.heap.size) ∧ D'.slots[fC.slot]? = some (.int 0) ∧ Arr .byte s.heap.size V u ∧ V.vm = .none ∧ u.vm.findClass "[B" = some V.cls ∧ V.slots.size = len ∧ (∀ j, j < len → V.slots[j]? = some (.int (lo8 (cv A (o + j))))) ∧ (∀ (y : Addr) (c : Cell), y ≠ a → s.heap[y]? = some c → u.heap[y]? = some c) ∧ u.heap.size = s.heap.size + 1
theorem Got.mv {a : Addr} {D A : Cell} {fV fC : Field} {o len : Nat} : ∀ r (U U' V V' : State), U'.heap = U.heap → V.vm.Alike V'.vm → V'.heap = V.heap → Got a D fV fC A o len r U V → Got a D fV fC A o len r U' V' :=
  fun r U U' V V' h1 hal h2 ⟨e0, D', X, a1, a2, a3, a4, a5, a6, a7, a8, a9, a10, a11⟩ => ⟨e0, D', X, a1.mv hal h2, a2, by rw [h1]; exact a3, a4, by rw [h1]; exact a5.mv hal h2, a6, by rw [hal.findClass]; exact a7, a8, a9, by rw [h1, h2]; exact a10, by rw [h1, h2]; exact a11⟩
namespace New4
def yN : MethodName := ⟨"java/lang/String", "<init>", "([CIILjava/lang/Void;)V"⟩
abbrev yB : ByteArray := jdk_42_method_149_code
theorem d0 : decode yB 0 = .ok (.aload_n 0, 1) := by decide +kernel
theorem d1 : decode yB 1 = .ok (.invokespecial 1, 3) := by decide +kernel
theorem d4 : decode yB 4 = .ok (.iload_n 3, 1) := by decide +kernel
theorem d5 : decode yB 5 = .ok (.ifCond (.ne) 22, 3) := by decide +kernel
theorem d27 : decode yB 27 = .ok (.getstatic 38, 3) := by decide +kernel
theorem d30 : decode yB 30 = .ok (.ifCond (.eq) 28, 3) := by decide +kernel
theorem d33 : decode yB 33 = .ok (.aload_n 1, 1) := by decide +kernel
theorem d34 : decode yB 34 = .ok (.iload_n 2, 1) := by decide +kernel
theorem d35 : decode yB 35 = .ok (.iload_n 3, 1) := by decide +kernel
theorem d36 : decode yB 36 = .ok (.invokestatic 177, 3) := by decide +kernel
theorem d39 : decode yB 39 = .ok (.astore 5, 2) := by decide +kernel
theorem d41 : decode yB 41 = .ok (.aload_n 0, 1) := by decide +kernel
theorem d42 : decode yB 42 = .ok (.aload 5, 2) := by decide +kernel
theorem d44 : decode yB 44 = .ok (.iload_n 3, 1) := by decide +kernel
theorem d45 : decode yB 45 = .ok (.invokestatic 47, 3) := by decide +kernel
theorem d48 : decode yB 48 = .ok (.putfield 15, 3) := by decide +kernel
theorem d51 : decode yB 51 = .ok (.aload_n 0, 1) := by decide +kernel
theorem d52 : decode yB 52 = .ok (.aload 5, 2) := by decide +kernel
theorem d54 : decode yB 54 = .ok (.putfield 9, 3) := by decide +kernel
theorem d57 : decode yB 57 = .ok (.return_, 1) := by decide +kernel
def site : List Cond := [.fieldLink "java/lang/String" 38 "java/lang/String" "COMPACT_STRINGS" "Z", Cmp3.tab, CodL.tab, .laysFinal "java/lang/String" "java/lang/String" "value" "[B", .fieldLink "java/lang/String" 9 "java/lang/String" "value" "[B", .laysFinal "java/lang/String" "java/lang/String" "coder" "B", .fieldLink "java/lang/String" 15 "java/lang/String" "coder" "B"] ++ objW "java/lang/String" 1 ++ staticW "java/lang/String" 177 Cmp3.yN ++ staticW "java/lang/String" 47 CodL.yN
def tab : Cond := tabOf yN yB 6 none site
def P (a : Addr) (D : Cell) (fV fC : Field) (b : Addr) (A : Cell) (z : Int32) (o len : Nat) (args : Array Value) (s : State) : Prop := args = #[.ref a, .ref b, .int (Int32.ofNat o), .int (Int32.ofNat len), .null] ∧ Blank "java/lang/String" a D s ∧ Found "java/lang/String" "value" "[B" fV s ∧ Found "java/lang/String" "coder" "B" fC s ∧ Ch b A s ∧ StaticIs s "java/lang/String" "COMPACT_STRINGS" "Z" (.int z) ∧ ¬ z = 0 ∧ 0 < len ∧ o + len ≤ A.slots.size ∧ len ≤ 536870912 ∧ ∀ i, i < len → ¬ 255 < cv A (o + i)
def E (a : Addr) (D : Cell) (fV fC : Field) (A : Cell) (o len : Nat) (r : Option Value) (s u : State) : Prop := Got a D fV fC A o len r s u
/-- len > 0, no char of the range above 255: a Latin-1 String of their low bytes -/
theorem law (l : Launch) (a : Addr) (D : Cell) (fV fC : Field) (b : Addr) (A : Cell) (z : Int32) (o len : Nat) : Law l yN 5 4 2 35 yB 6 none site (P a D fV fC b A z o len) (E a D fV fC A o len) [⟨a, fC.slot⟩, ⟨a, fV.slot⟩] 1 len := by
  refine Law.of_walk (plainFor_of_name (by decide +kernel)) (by decide +kernel) (by decide +kernel) (by decide) (fun _ _ h => by rw [h.1]; rfl) (fun _ U U' hal hh h => ⟨h.1, h.2.1.mv hal hh, h.2.2.1.al hal, h.2.2.2.1.al hal, h.2.2.2.2.1.mv hal hh, h.2.2.2.2.2.1.there hal hh, h.2.2.2.2.2.2⟩) (fun r U U' V V' h1 hal h2 h => Got.mv r U U' V V' h1 hal h2 h) ?_
  intro p e s m args below meth c s₁ X0 hexec hbytes hml hret hlk hnm hown hh0 W hP
  obtain ⟨rfl, hB, f1, f2, hA, s1, hz, l0, l1, l2, hp⟩ := hP
  have a31 := hA.1.2.2.2
  have c1 : Steps p.tables e below (s₁.setTop (entryFrame m #[.ref a, .ref b, .int (Int32.ofNat o), .int (Int32.ofNat len), .null] 6)) (s₁.setTop (mkF m 0 #[.val (.ref a), .val (.ref b), .val (.int (Int32.ofNat o)), .val (.int (Int32.ofNat len)), .val .null, .unset] [])) := entry rfl
  have c2 : Steps p.tables e below (s₁.setTop (entryFrame m #[.ref a, .ref b, .int (Int32.ofNat o), .int (Int32.ofNat len), .null] 6)) (s₁.setTop (mkF m 1 #[.val (.ref a), .val (.ref b), .val (.int (Int32.ofNat o)), .val (.int (Int32.ofNat len)), .val .null, .unset] [.ref a])) := c1.trans (by
    refine XS.aloadN X0.here hexec rfl (hb hbytes d0) rfl rfl ?_
    exact Steps.refl _)
  obtain ⟨T3, X3, q3, st3⟩ := X0.oinit hexec hown (wks W (objW "java/lang/String" 1)) (g := (mkF m 1 #[.val (.ref a), .val (.ref b), .val (.int (Int32.ofNat o)), .val (.int (Int32.ofNat len)), .val .null, .unset] [.ref a])) rfl (by rw [hml]; rfl) (rest := []) rfl (hb hbytes d1) (W := 0) (by show 2 * 0 + 0 ≤ _; decide) (Nat.le_of_ble_eq_true rfl) (Nat.le_of_ble_eq_true rfl)
  have hh3 := q3.trans hh0
  have c4 : Steps p.tables e below (s₁.setTop (entryFrame m #[.ref a, .ref b, .int (Int32.ofNat o), .int (Int32.ofNat len), .null] 6)) (T3.setTop (mkF m 27 #[.val (.ref a), .val (.ref b), .val (.int (Int32.ofNat o)), .val (.int (Int32.ofNat len)), .val .null, .unset] [])) := (c2.trans (st3 _ (Steps.refl _))).trans (by
    refine XS.iloadN X3.here hexec rfl (hb hbytes d4) rfl ?_
    refine XS.ifYes X3.here hexec rfl (pc0 := 5) rfl (hb hbytes d5) rfl (i0_ne_t (nz32 (by omega) l0)) (by decide) rfl ?_
    exact Steps.refl _)
  obtain ⟨T5, X5, q5, st5⟩ := X3.sget hexec hown (wk W (.fieldLink "java/lang/String" 38 "java/lang/String" "COMPACT_STRINGS" "Z")) s1 (fun _ _ h => by rw [hh3]; exact h) (g := (mkF m 27 #[.val (.ref a), .val (.ref b), .val (.int (Int32.ofNat o)), .val (.int (Int32.ofNat len)), .val .null, .unset] [])) rfl (hb hbytes d27)
  have hh5 := q5.trans hh3
  have c6 : Steps p.tables e below (s₁.setTop (entryFrame m #[.ref a, .ref b, .int (Int32.ofNat o), .int (Int32.ofNat len), .null] 6)) (T5.setTop (mkF m 30 #[.val (.ref a), .val (.ref b), .val (.int (Int32.ofNat o)), .val (.int (Int32.ofNat len)), .val .null, .unset] [.int z])) := c4.trans (st5 _ (Steps.refl _))
  have c7 : Steps p.tables e below (s₁.setTop (entryFrame m #[.ref a, .ref b, .int (Int32.ofNat o), .int (Int32.ofNat len), .null] 6)) (T5.setTop (mkF m 36 #[.val (.ref a), .val (.ref b), .val (.int (Int32.ofNat o)), .val (.int (Int32.ofNat len)), .val .null, .unset] [.int (Int32.ofNat len), .int (Int32.ofNat o), .ref b])) := c6.trans (by
    refine XS.ifNo X5.here hexec rfl (hb hbytes d30) rfl (i0_eq_f hz) ?_
    refine XS.aloadN X5.here hexec rfl (hb hbytes d33) rfl rfl ?_
    refine XS.iloadN X5.here hexec rfl (hb hbytes d34) rfl ?_
    refine XS.iloadN X5.here hexec rfl (hb hbytes d35) rfl ?_
    exact Steps.refl _)
  obtain ⟨v8, T8, X8, E8, g8⟩ := X5.callS hexec (Cmp3.law l b A o len) hown (wks W (staticW "java/lang/String" 177 Cmp3.yN)) (wk W Cmp3.tab) (W := 0) (Nat.le_of_ble_eq_true rfl) (Nat.le_of_ble_eq_true rfl) (Nat.le_refl _) (by show 0 + len ≤ len; omega) (g := (mkF m 36 #[.val (.ref a), .val (.ref b), .val (.int (Int32.ofNat o)), .val (.int (Int32.ofNat len)), .val .null, .unset] [.int (Int32.ofNat len), .int (Int32.ofNat o), .ref b])) rfl (by rw [hml]; rfl) c7 (argsL := [.ref b, .int (Int32.ofNat o), .int (Int32.ofNat len)]) (rest := []) rfl rfl (by show 2 * 0 + 0 ≤ _; decide) (hb hbytes d36) (⟨rfl, hA.mv X5.warmed.alike hh5, l1, l2, hp⟩)
  obtain ⟨e8, z8⟩ := E8
  obtain ⟨rfl, N, n1, n2, n3, n4, n5, n6⟩ := NewArr.mv _ T5 s _ _ hh5.symm (Vm.Alike.refl _) rfl e8
  rw [hh5] at z8
  have hB1 := hB.keep X8.warmed.alike (n6 _ _ hB.1)
  have hne : s.heap.size ≠ a := (Nat.ne_of_lt (Array.getElem?_eq_some_iff.mp hB.1).1).symm
  have c9 : Steps p.tables e below (s₁.setTop (entryFrame m #[.ref a, .ref b, .int (Int32.ofNat o), .int (Int32.ofNat len), .null] 6)) (T8.setTop (mkF m 39 #[.val (.ref a), .val (.ref b), .val (.int (Int32.ofNat o)), .val (.int (Int32.ofNat len)), .val .null, .unset] [.ref s.heap.size])) := g8
  have c10 : Steps p.tables e below (s₁.setTop (entryFrame m #[.ref a, .ref b, .int (Int32.ofNat o), .int (Int32.ofNat len), .null] 6)) (T8.setTop (mkF m 45 #[.val (.ref a), .val (.ref b), .val (.int (Int32.ofNat o)), .val (.int (Int32.ofNat len)), .val .null, .val (.ref s.heap.size)] [.int (Int32.ofNat N.slots.size), .ref s.heap.size, .ref a])) := by
    have hc : Steps p.tables e below (s₁.setTop (entryFrame m #[.ref a, .ref b, .int (Int32.ofNat o), .int (Int32.ofNat len), .null] 6)) (T8.setTop (mkF m 45 #[.val (.ref a), .val (.ref b), .val (.int (Int32.ofNat o)), .val (.int (Int32.ofNat len)), .val .null, .val (.ref s.heap.size)] [.int (Int32.ofNat len), .ref s.heap.size, .ref a])) := c9.trans (by
      refine XS.astore X8.here hexec rfl (hb hbytes d39) rfl rfl rfl ?_
      refine XS.aloadN X8.here hexec rfl (hb hbytes d41) rfl rfl ?_
      refine XS.aload X8.here hexec rfl (hb hbytes d42) rfl rfl ?_
      refine XS.iloadN X8.here hexec rfl (hb hbytes d44) rfl ?_
      exact Steps.refl _)
    rw [n4]; exact hc
  obtain ⟨v11, T11, X11, E11, g11⟩ := X8.callS hexec (CodL.law l s.heap.size N) hown (wks W (staticW "java/lang/String" 47 CodL.yN)) (wk W CodL.tab) (W := 1) (Nat.le_of_ble_eq_true rfl) (Nat.le_of_ble_eq_true rfl) (Nat.le_refl _) (by show 0 + len + 0 ≤ len; omega) (g := (mkF m 45 #[.val (.ref a), .val (.ref b), .val (.int (Int32.ofNat o)), .val (.int (Int32.ofNat len)), .val .null, .val (.ref s.heap.size)] [.int (Int32.ofNat N.slots.size), .ref s.heap.size, .ref a])) rfl (by rw [hml]; rfl) c10 (argsL := [.ref s.heap.size, .int (Int32.ofNat N.slots.size)]) (rest := [.ref a]) rfl rfl (by show 2 * 0 + (1 + 0) ≤ _; decide) (hb hbytes d45) (⟨rfl, n1⟩)
  obtain ⟨rfl, q11⟩ := E11
  have hB11 := hB1.mv (X8.warmed.alike.symm.trans X11.warmed.alike) q11
  have c12 : Steps p.tables e below (s₁.setTop (entryFrame m #[.ref a, .ref b, .int (Int32.ofNat o), .int (Int32.ofNat len), .null] 6)) (T11.setTop (mkF m 48 #[.val (.ref a), .val (.ref b), .val (.int (Int32.ofNat o)), .val (.int (Int32.ofNat len)), .val .null, .val (.ref s.heap.size)] [.int 0, .ref a])) := g11
  obtain ⟨T13, X13, p13, bl13, sl13, st13⟩ := X11.finit hexec hown (wk W (.fieldLink "java/lang/String" 15 "java/lang/String" "coder" "B")) (Or.inr ⟨_, (wk W (.laysFinal "java/lang/String" "java/lang/String" "coder" "B"))⟩) (Or.inl ⟨rfl, hnm⟩) f2 (Or.inl rfl) hB11 (t := .byte) (by decide +kernel) rfl (g := (mkF m 48 #[.val (.ref a), .val (.ref b), .val (.int (Int32.ofNat o)), .val (.int (Int32.ofNat len)), .val .null, .val (.ref s.heap.size)] [.int 0, .ref a])) rfl (rest := []) rfl (hb hbytes d48)
  have c14 : Steps p.tables e below (s₁.setTop (entryFrame m #[.ref a, .ref b, .int (Int32.ofNat o), .int (Int32.ofNat len), .null] 6)) (T13.setTop (mkF m 54 #[.val (.ref a), .val (.ref b), .val (.int (Int32.ofNat o)), .val (.int (Int32.ofNat len)), .val .null, .val (.ref s.heap.size)] [.ref s.heap.size, .ref a])) := (c12.trans (st13 _ (Steps.refl _))).trans (by
    refine XS.aloadN X13.here hexec rfl (hb hbytes d51) rfl rfl ?_
    refine XS.aload X13.here hexec rfl (hb hbytes d52) rfl rfl ?_
    exact Steps.refl _)
  obtain ⟨T15, X15, p15, bl15, sl15, st15⟩ := X13.finit hexec hown (wk W (.fieldLink "java/lang/String" 9 "java/lang/String" "value" "[B")) (Or.inr ⟨_, (wk W (.laysFinal "java/lang/String" "java/lang/String" "value" "[B"))⟩) (Or.inl ⟨rfl, hnm⟩) f1 (Or.inl rfl) bl13 (t := (.array .byte)) (by decide +kernel) rfl (g := (mkF m 54 #[.val (.ref a), .val (.ref b), .val (.int (Int32.ofNat o)), .val (.int (Int32.ofNat len)), .val .null, .val (.ref s.heap.size)] [.ref s.heap.size, .ref a])) rfl (rest := []) rfl (hb hbytes d54)
  have c16 : Steps p.tables e below (s₁.setTop (entryFrame m #[.ref a, .ref b, .int (Int32.ofNat o), .int (Int32.ofNat len), .null] 6)) (T15.setTop (mkF m 57 #[.val (.ref a), .val (.ref b), .val (.int (Int32.ofNat o)), .val (.int (Int32.ofNat len)), .val .null, .val (.ref s.heap.size)] [])) := c14.trans (st15 _ (Steps.refl _))
  have ap := apart (Or.inr ⟨_, (wk W (.laysFinal "java/lang/String" "java/lang/String" "value" "[B"))⟩) (Or.inr ⟨_, (wk W (.laysFinal "java/lang/String" "java/lang/String" "coder" "B"))⟩) f1 f2 (t₁ := .array .byte) (t₂ := .byte) (by decide +kernel) (by decide +kernel) (by decide)
  have al := X8.warmed.alike.symm.trans X15.warmed.alike
  have n7 : T11.heap[s.heap.size]? = some N := by rw [q11]; exact n1.1
  exact ⟨T15, none, _, _, _, X15, by simp, rfl, by omega, (fun _ => rfl), ⟨rfl, _, N, bl15, ((Same.refl D _).set _ (by simp)).set _ (by simp), sl15, (Cell.slots_setSlot_ne _ ap).trans sl13, n1.keep al (p15.other hne (p13.other hne n7)), n2, by rw [al.findClass]; exact n3, n4, n5, fun y c h1 h2 => p15.other h1 (p13.other h1 (by rw [q11]; exact n6 y c h2)), by rw [p15.2.2, p13.2.2, q11]; exact z8⟩, fun fs hl => c16.trans (X15.returnOut hexec hret (hb hbytes d57) hl)⟩
end New4
namespace New1
def yN : MethodName := ⟨"java/lang/String", "<init>", "([C)V"⟩
abbrev yB : ByteArray := jdk_42_method_3_code
theorem d0 : decode yB 0 = .ok (.aload_n 0, 1) := by decide +kernel
theorem d1 : decode yB 1 = .ok (.aload_n 1, 1) := by decide +kernel
theorem d2 : decode yB 2 = .ok (.iconst 0, 1) := by decide +kernel
theorem d3 : decode yB 3 = .ok (.aload_n 1, 1) := by decide +kernel
theorem d4 : decode yB 4 = .ok (.arraylength, 1) := by decide +kernel
theorem d5 : decode yB 5 = .ok (.aconst_null, 1) := by decide +kernel
theorem d6 : decode yB 6 = .ok (.invokespecial 27, 3) := by decide +kernel
theorem d9 : decode yB 9 = .ok (.return_, 1) := by decide +kernel
def site : List Cond := [New4.tab] ++ initW "java/lang/String" 27 New4.yN
def tab : Cond := tabOf yN yB 2 none site
def P (a : Addr) (D : Cell) (fV fC : Field) (b : Addr) (A : Cell) (z : Int32) (args : Array Value) (s : State) : Prop := args = #[.ref a, .ref b] ∧ Blank "java/lang/String" a D s ∧ Found "java/lang/String" "value" "[B" fV s ∧ Found "java/lang/String" "coder" "B" fC s ∧ Ch b A s ∧ StaticIs s "java/lang/String" "COMPACT_STRINGS" "Z" (.int z) ∧ ¬ z = 0 ∧ 0 < A.slots.size ∧ A.slots.size ≤ 536870912 ∧ ∀ i, i < A.slots.size → ¬ 255 < cv A i
def E (a : Addr) (D : Cell) (fV fC : Field) (A : Cell) (r : Option Value) (s u : State) : Prop := Got a D fV fC A 0 A.slots.size r s u
/-- new String(chars), not empty, no char above 255: a Latin-1 String of their low bytes -/
theorem law (l : Launch) (a : Addr) (D : Cell) (fV fC : Field) (b : Addr) (A : Cell) (z : Int32) : Law l yN 2 1 3 52 yB 2 none site (P a D fV fC b A z) (E a D fV fC A) [⟨a, fC.slot⟩, ⟨a, fV.slot⟩] 1 A.slots.size := by
  refine Law.of_walk (plainFor_of_name (by decide +kernel)) (by decide +kernel) (by decide +kernel) (by decide) (fun _ _ h => by rw [h.1]; rfl) (fun _ U U' hal hh h => ⟨h.1, h.2.1.mv hal hh, h.2.2.1.al hal, h.2.2.2.1.al hal, h.2.2.2.2.1.mv hal hh, h.2.2.2.2.2.1.there hal hh, h.2.2.2.2.2.2⟩) (fun r U U' V V' h1 hal h2 h => Got.mv r U U' V V' h1 hal h2 h) ?_
  intro p e s m args below meth c s₁ X0 hexec hbytes hml hret hlk hnm hown hh0 W hP
  obtain ⟨rfl, hB, f1, f2, hA, s1, hz, l0, l2, hp⟩ := hP
  have c1 : Steps p.tables e below (s₁.setTop (entryFrame m #[.ref a, .ref b] 2)) (s₁.setTop (mkF m 0 #[.val (.ref a), .val (.ref b)] [])) := entry rfl
  have c2 : Steps p.tables e below (s₁.setTop (entryFrame m #[.ref a, .ref b] 2)) (s₁.setTop (mkF m 6 #[.val (.ref a), .val (.ref b)] [.null, .int (Int32.ofNat A.slots.size), .int 0, .ref b, .ref a])) := c1.trans (by
    refine XS.aloadN X0.here hexec rfl (hb hbytes d0) rfl rfl ?_
    refine XS.aloadN X0.here hexec rfl (hb hbytes d1) rfl rfl ?_
    refine iconstV X0.here hexec rfl 0 (hb hbytes d2) (by decide) ?_
    refine XS.aloadN X0.here hexec rfl (hb hbytes d3) rfl rfl ?_
    refine X0.alen hexec (hA.1.mv X0.warmed.alike hh0) rfl rfl (hb hbytes d4) ?_
    refine XS.aconstNull X0.here hexec rfl (hb hbytes d5) ?_
    exact Steps.refl _)
  obtain ⟨v3, T3, X3, E3, g3⟩ := X0.callN hexec (New4.law l a D fV fC b A z 0 A.slots.size) rfl hown (wks W (initW "java/lang/String" 27 New4.yN)) (W New4.tab (by simp only [site, List.mem_cons, List.mem_append, true_or, or_true])) (W := 0) (Nat.le_of_ble_eq_true rfl) (Nat.le_of_ble_eq_true rfl) (Nat.le_refl _) (by show 0 + A.slots.size ≤ A.slots.size; omega) (g := (mkF m 6 #[.val (.ref a), .val (.ref b)] [.null, .int (Int32.ofNat A.slots.size), .int (Int32.ofNat 0), .ref b, .ref a])) rfl (by rw [hml]; rfl) c2 (argsL := [.ref b, .int (Int32.ofNat 0), .int (Int32.ofNat A.slots.size), .null]) (rest := []) rfl rfl (by show 2 * 0 + 0 ≤ _; decide) (hb hbytes d6) (⟨rfl, hB.mv X0.warmed.alike hh0, f1.al X0.warmed.alike, f2.al X0.warmed.alike, hA.mv X0.warmed.alike hh0, s1.there X0.warmed.alike hh0, hz, l0, by omega, l2, fun i hi => by rw [Nat.zero_add]; exact hp i hi⟩)
  have e0 := Got.mv _ s₁ s _ _ hh0.symm (Vm.Alike.refl _) rfl E3
  obtain rfl := e0.1
  have c4 : Steps p.tables e below (s₁.setTop (entryFrame m #[.ref a, .ref b] 2)) (T3.setTop (mkF m 9 #[.val (.ref a), .val (.ref b)] [])) := g3
  exact ⟨T3, none, _, _, _, X3, by simp, rfl, by omega, (fun _ => rfl), e0, fun fs hl => c4.trans (X3.returnOut hexec hret (hb hbytes d9) hl)⟩
theorem pays {l : Launch} {R : Room} {p : Program} {e : Env} {below : List Frame} {s : State} {sargs : Array Value} {len W : Nat} (a : Addr) (D : Cell) (fV fC : Field) (b : Addr) (A : Cell) (z : Int32) (htab : tab.before sargs s = true) (hfr : 4 ≤ R.frames) (hlo : W + 65 ≤ R.locals) :
    Back l R p e below s sargs yN len W (fun A₁ a₁ => A₁.cells + 1 ≤ R.cells ∧ A₁.slots + A.slots.size ≤ R.slots ∧ P a D fV fC b A z a₁ A₁.U) (fun A₁ _ v₁ B₁ => E a D fV fC A v₁ A₁.U B₁.U ∧ B₁.locs = A₁.locs ++ [⟨a, fC.slot⟩, ⟨a, fV.slot⟩] ∧ B₁.cells = A₁.cells + 1 ∧ B₁.slots = A₁.slots + A.slots.size) :=
  (law l a D fV fC b A z).pays htab hfr (by omega)
end New1
/-- the byte, read back as charAt reads it, is the char -/
theorem lo8_mask {x : Int32} (h0 : ¬ x < 0) (h1 : ¬ 255 < x) : lo8 x &&& 255 = x := by
  have t : ∀ k : Fin 256, lo8 (Int32.ofNat k.val) &&& 255 = Int32.ofNat k.val := by decide +kernel
  rw [Int32.lt_iff_toInt_lt] at h0 h1
  have e0 : (0 : Int32).toInt = 0 := rfl
  have e1 : (255 : Int32).toInt = 255 := rfl
  obtain ⟨k, hk⟩ : ∃ k : Nat, x.toInt = k := ⟨x.toInt.toNat, by omega⟩
  have hx : x = Int32.ofNat k := Int32.toInt_inj.mp (by rw [hk, Int32.toInt_ofNat_small (by omega)])
  rw [hx]
  exact t ⟨k, by omega⟩
end StrChars
namespace StrChars.Road
open Jvm Sem ClassFile Op Lib Jvm.Stand Jvm.Free Jvm.Free.XT
open Jvm.Lib.Cold (StaticIs)
abbrev ST : String := "java/lang/String"
/-- every table word that New1's law asks, flat -/
abbrev words : List Jvm.Cond := [.code New1.yN New1.yB 2 none, .initialized ST, .methodLink ST 27 New4.yN, .instanceMethod New4.yN,
  .code New4.yN New4.yB 6 none, .fieldLink ST 38 ST "COMPACT_STRINGS" "Z", .laysFinal ST ST "value" "[B", .fieldLink ST 9 ST "value" "[B", .laysFinal ST ST "coder" "B", .fieldLink ST 15 ST "coder" "B",
  .methodLink ST 1 Lib.objectInit, .instanceMethod Lib.objectInit, .code Lib.objectInit ⟨#[0xb1]⟩ 1 none, .methodLink ST 177 Cmp3.yN, .static Cmp3.yN, .methodLink ST 47 CodL.yN, .static CodL.yN,
  .code Cmp3.yN Cmp3.yB 6 (some (.array .byte)), .initialized U16, .arrayClass .byte, .methodLink U16 115 Cmp5.yN, .static Cmp5.yN, .code Cmp5.yN Cmp5.yB 7 (some .int), .code CodL.yN CodL.yB 2 (some .byte)]
theorem tab_of {a : Array Value} {s : State} (h : ∀ w ∈ words, w.before a s = true) : New1.tab.before a s = true := by
  have h5 : Cmp5.tab.before a s = true := unparts (wk h (.code Cmp5.yN Cmp5.yB 7 (some .int))) (wks h (.initialized Cmp5.yN.cls :: Cmp5.site))
  have hc : CodL.tab.before a s = true := unparts (wk h (.code CodL.yN CodL.yB 2 (some .byte))) (wks h (.initialized CodL.yN.cls :: CodL.site))
  have q5 : ∀ w ∈ Cmp5.tab :: words, w.before a s = true := fun w hw => (List.mem_cons.mp hw).elim (fun e => e ▸ h5) (h w)
  have h3 : Cmp3.tab.before a s = true := unparts (wk q5 (.code Cmp3.yN Cmp3.yB 6 (some (.array .byte)))) (wks q5 (.initialized Cmp3.yN.cls :: Cmp3.site))
  have q3 : ∀ w ∈ Cmp3.tab :: CodL.tab :: words, w.before a s = true := fun w hw => (List.mem_cons.mp hw).elim (fun e => e ▸ h3) fun hw => (List.mem_cons.mp hw).elim (fun e => e ▸ hc) (h w)
  have h4 : New4.tab.before a s = true := unparts (wk q3 (.code New4.yN New4.yB 6 none)) (wks q3 (.initialized New4.yN.cls :: New4.site))
  have q4 : ∀ w ∈ New4.tab :: words, w.before a s = true := fun w hw => (List.mem_cons.mp hw).elim (fun e => e ▸ h4) (h w)
  exact unparts (wk q4 (.code New1.yN New1.yB 2 none)) (wks q4 (.initialized New1.yN.cls :: New1.site))
/-- the words ride from the start Z to the walk's own state -/
theorem moved {Z s : State} {a0 args : Array Value} (hZ : Z.Warmed39 s.vm) (hw : ∀ d ∈ words, d.before a0 Z = true) : ∀ d ∈ words, d.before args s = true := fun d hd => by
  have q := hw d hd
  have t : ∀ d ∈ words, d = .arrayClass .byte ∨ (d.onTables && d.keepsFace) = true := by decide +kernel
  rcases t d hd with rfl | t
  · exact RoadKit.mvA hZ q
  · exact RoadKit.mv hZ q t
/-- WHAT COMES BACK, over the tables of the start Z: h the heap at the call, h' behind it -/
def Q (Z : State) (x : Addr) (A : Cell) (h : Heap) (v : Option Value) (h' : Heap) (L : List Loc) : Prop := v = none ∧ (∀ y ∈ L, y.base = x) ∧ RoadKit.Keep h h' [x] ∧ h'.size = h.size + 1 ∧ RoadKit.Exa Z h' x ST ∧ RoadKit.Fld Z h' x ST "value" "[B" (.ref h.size) ∧ RoadKit.Fld Z h' x ST "coder" "B" (.int 0) ∧
  (∃ V : Cell, RoadKit.Arr Z h' h.size V .byte ∧ V.vm = .none ∧ Z.vm.findClass "[B" = some V.cls ∧ V.slots.size = A.slots.size ∧ ∀ j, j < A.slots.size → V.slots[j]? = some (.int (lo8 (cv A j)))) ∧
  ∀ (O n d : String) (w : Value), RoadKit.Fld Z h x O n d w → RoadKit.slotOf Z O n d ≠ RoadKit.slotOf Z ST "value" "[B" → RoadKit.slotOf Z O n d ≠ RoadKit.slotOf Z ST "coder" "B" → RoadKit.Fld Z h' x O n d w
/-- **new String(chars) AT A CALL, IN THE ROAD'S FORM**: for specialBack behind newO: x the fresh String, b the char[] with the cell A -/
theorem back {p : Program} {l : Launch} {e : Env} {R : Room} {s : State} {args : Array Value} {below : List Frame} {len W : Nat} {Z : State} {a0 : Array Value} {h : Heap} (hZ : Z.Warmed39 s.vm) (hw : ∀ d ∈ words, d.before a0 Z = true) {kI : Nat} (wi : (Jvm.Cond.instantiable ST kI).before a0 Z = true)
    {x b : Addr} {A : Cell} {z : Int32} {v0 c0 : Value} (E : RoadKit.Exa Z h x ST) (V : RoadKit.Fld Z h x ST "value" "[B" v0) (C : RoadKit.Fld Z h x ST "coder" "B" c0) (K : RoadKit.Arr Z h b A .char) (hty : Typed .char A) (S : RoadKit.Sta Z h ST "COMPACT_STRINGS" "Z" (.int z)) (hz : ¬ z = 0)
    (l0 : 0 < A.slots.size) (l2 : A.slots.size ≤ 536870912) (hp : ∀ i, i < A.slots.size → ¬ 255 < cv A i) (hfr : 4 ≤ R.frames) (hlo : W + 65 ≤ R.locals) :
    Back l R p e below s args New1.yN len W (fun P a => a = #[.ref x, .ref b] ∧ P.U.heap = h ∧ P.cells + 1 ≤ R.cells ∧ P.slots + A.slots.size ≤ R.slots)
      (fun P _ v B => ∃ L, Q Z x A h v B.U.heap L ∧ B.locs = P.locs ++ L ∧ B.cells = P.cells + 1 ∧ B.slots = P.slots + A.slots.size) := by
  intro m meth c P g ig mk a X hg hsize hdg hW hn hp'
  obtain ⟨rfl, rfl, r1, r2⟩ := hp'
  have al : Z.vm.Alike P.U.vm := hZ.alike.trans X.warmed.alike
  obtain ⟨D, cfV, kV, iV, fV, hD, gV, stV, knV, obV, asV, slV⟩ := id V
  obtain ⟨D', cfC, kC, iC, fC, hD', gC, stC, -, -, asC, slC⟩ := id C
  cases hD.symm.trans hD'
  obtain ⟨D2, kD, e1, e2, e3, e4, e5⟩ := id E
  cases hD.symm.trans e1
  obtain ⟨c2, k2, i1, i2, i3, -⟩ := Cond.instantiable_spec wi
  cases e2.symm.trans i1
  cases e3.symm.trans i2
  obtain ⟨kU, u1, u2⟩ := al.2.2 _ _ e3
  have hB : Blank ST x D P.U := ⟨hD, ⟨knV, fun q hq => by rw [hq] at obV; cases obV⟩, by rw [al.findClass]; exact e2, kU, u1, by rw [u2]; exact i3, by rw [u2]; exact e5 i3⟩
  have F1 : Found ST "value" "[B" fV P.U := ⟨SBG.found_only al ⟨cfV, kV, iV, gV⟩, stV⟩
  have F2 : Found ST "coder" "B" fC P.U := ⟨SBG.found_only al ⟨cfC, kC, iC, gC⟩, stC⟩
  have hA : Ch b A P.U := ⟨⟨K.1, State.isArrayOf_alike al K.2.1, K.2.2, by omega⟩, hty⟩
  have hS : StaticIs P.U ST "COMPACT_STRINGS" "Z" (.int z) := by
    obtain ⟨cfS, iS, kS, fS, st, cS, t1, t2, t3, t4, t5, t6, t7⟩ := S
    exact StaticIs.there (s := { Z with heap := P.U.heap }) ⟨cfS, iS, kS, fS, st, cS, t1, t2, t3, t4, t5, (fun q => by rw [q] at t6; cases t6), t7⟩ al rfl
  obtain ⟨v, B, X', ⟨⟨hv, E', V', q1, q2, q3, q4, q5, q6, q7, q8, q9, q10, q11⟩, hl, hc, hs⟩, st⟩ := New1.pays x D fV fC b A z (tab_of (moved hZ hw)) hfr hlo m meth c P g ig mk _ X hg hsize hdg hW hn ⟨r1, r2, rfl, hB, F1, F2, hA, hS, hz, l0, l2, hp⟩
  have al' : Z.vm.Alike B.U.vm := hZ.alike.trans X'.warmed.alike
  have hsz : E'.slots.size = D.slots.size := by
    obtain ⟨-, -, -, kB, w1, w2, w3⟩ := q1
    obtain ⟨kB', y1, y2⟩ := al'.2.2 _ _ e3
    rw [q2.2.1] at w1
    cases w1.symm.trans y1
    rw [w3, e5 i3, y2]
  refine ⟨v, B, X', ⟨_, ⟨hv, ?_, ⟨by omega, fun y cy hy hn' => q10 y cy (by simpa using hn') hy, fun y cy hy => ?_⟩, q11, ⟨E', _, q1.1, by rw [q2.2.1]; exact e2, by rw [q2.2.1]; exact e3, by rw [q2.1]; exact obV, fun _ => by rw [hsz]; exact e5 i3⟩,
    ⟨E', cfV, kV, iV, fV, q1.1, gV, stV, by rw [q2.1]; exact knV, by rw [q2.1]; exact obV, by rw [q2.2.1]; exact asV, q3⟩, ⟨E', cfC, kC, iC, fC, q1.1, gC, stC, by rw [q2.1]; exact knV, by rw [q2.1]; exact obV, by rw [q2.2.1]; exact asC, q4⟩,
    ⟨V', ⟨q5.1, State.isArrayOf_alike al'.symm q5.2.1, q5.2.2.1⟩, q6, by rw [← al'.findClass]; exact q7, q8, fun j hj => by have := q9 j hj; rwa [Nat.zero_add] at this⟩, fun O n d w F n1 n2 => ?_⟩, hl, hc, hs⟩, st⟩
  · intro y hy
    simp only [List.mem_cons, List.not_mem_nil, or_false] at hy
    rcases hy with rfl | rfl <;> rfl
  · by_cases q : y = x
    · subst q
      cases hD.symm.trans hy
      exact ⟨E', q1.1, q2.2.1, q2.1, hsz⟩
    · exact ⟨cy, q10 y cy q hy, rfl, rfl, rfl⟩
  · obtain ⟨D3, cf, k, i, f, g1, g2, g3, g4, g5, g6, g7⟩ := F
    cases hD.symm.trans g1
    simp only [RoadKit.slotOf, g2, gV, gC, Option.map_some, Option.getD_some] at n1 n2
    exact ⟨E', cf, k, i, f, q1.1, g2, g3, by rw [q2.1]; exact g4, by rw [q2.1]; exact g5, by rw [q2.2.1]; exact g6, by rw [q2.2.2 f.slot (by simp [n1, n2])]; exact g7⟩
end StrChars.Road
namespace StrChars.Road
open Jvm Sem ClassFile Op Lib Jvm.Stand Jvm.Free Jvm.Free.XT
/-- WHAT COMES BACK, the byte[] as a list of values -/
def QA (Z : State) (x : Addr) (zn : Int32) (cs : List Int32) (h : Heap) (v : Option Value) (h' : Heap) (L : List Loc) : Prop := v = none ∧ (∀ y ∈ L, y.base = x) ∧ RoadKit.Keep h h' [x] ∧ h'.size = h.size + 1 ∧ RoadKit.Exa Z h' x ST ∧ RoadKit.Fld Z h' x ST "value" "[B" (.ref h.size) ∧ RoadKit.Fld Z h' x ST "coder" "B" (.int 0) ∧
  (∃ kb, Z.vm.findClass "[B" = some kb ∧ RoadKit.Arv Z h' h.size kb .byte zn (cs.map fun c => .int (lo8 c)) (.int 0)) ∧
  ∀ (O n d : String) (w : Value), RoadKit.Fld Z h x O n d w → RoadKit.slotOf Z O n d ≠ RoadKit.slotOf Z ST "value" "[B" → RoadKit.slotOf Z O n d ≠ RoadKit.slotOf Z ST "coder" "B" → RoadKit.Fld Z h' x O n d w
/-- **new String(chars) AT A CALL, THE ARRAYS AS LISTS**: the char[] at b holds cs, not empty, no char above 255 -/
theorem backArv {p : Program} {l : Launch} {e : Env} {R : Room} {s : State} {args : Array Value} {below : List Frame} {len W : Nat} {Z : State} {a0 : Array Value} {h : Heap} (hZ : Z.Warmed39 s.vm) (hw : ∀ d ∈ words, d.before a0 Z = true) {kI : Nat} (wi : (Jvm.Cond.instantiable ST kI).before a0 Z = true)
    {x b : Addr} {k : ClassId} {zn z : Int32} {cs : List Int32} {dv v0 c0 : Value} (E : RoadKit.Exa Z h x ST) (V : RoadKit.Fld Z h x ST "value" "[B" v0) (C : RoadKit.Fld Z h x ST "coder" "B" c0) (K : RoadKit.Arv Z h b k .char zn (cs.map Value.int) dv) (S : RoadKit.Sta Z h ST "COMPACT_STRINGS" "Z" (.int z)) (hz : ¬ z = 0)
    (hlen : zn.toNatClampNeg = cs.length) (h0 : 0 < cs.length) (hbig : cs.length ≤ 536870912) (hall : ∀ c ∈ cs, ¬ 255 < c) (hfr : 4 ≤ R.frames) (hlo : W + 65 ≤ R.locals) :
    Back l R p e below s args New1.yN len W (fun P a => a = #[.ref x, .ref b] ∧ P.U.heap = h ∧ P.cells + 1 ≤ R.cells ∧ P.slots + cs.length ≤ R.slots)
      (fun P _ v B => ∃ L, QA Z x zn cs h v B.U.heap L ∧ B.locs = P.locs ++ L ∧ B.cells = P.cells + 1 ∧ B.slots = P.slots + cs.length) := by
  obtain ⟨A, K1, K2, K3, K4, K5, K6⟩ := K
  have e : A.slots.size = cs.length := K3.trans hlen
  have hat : ∀ (i : Nat) (hi : i < cs.length), A.slots[i]? = some (.int cs[i]) := fun i hi => by rw [K5 i (by omega)]; simp [List.getD_eq_getElem?_getD, hi]
  have hcv : ∀ (i : Nat) (hi : i < cs.length), cv A i = cs[i] := fun i hi => by unfold cv; rw [hat i hi]
  have hty : Typed .char A := fun i v hv => by
    have hi : i < A.slots.size := (Array.getElem?_eq_some_iff.mp hv).1
    have q := K5 i hi
    rw [hv] at q
    rw [Option.some.inj q]
    exact K6 i hi
  refine Back.mono (back hZ hw wi E V C K1 hty S hz (by omega) (by omega) (fun i hi => by rw [hcv i (by omega)]; exact hall _ (List.getElem_mem _)) hfr hlo) (fun P a hp => ⟨hp.1, hp.2.1, hp.2.2.1, by rw [e]; exact hp.2.2.2⟩) (fun P a v B hp hq => ?_)
  obtain ⟨L, ⟨q1, q2, q3, q4, q5, q6, q7, ⟨V', v1, v2, v3, v4, v5⟩, q9⟩, hl, hc, hs⟩ := hq
  refine ⟨L, ⟨q1, q2, q3, q4, q5, q6, q7, ⟨V'.cls, v3, V', v1, rfl, by rw [v4, e, hlen], K4, fun i hi => ?_, fun i hi => ?_⟩, q9⟩, hl, hc, by rw [hs, e]⟩
  · have hi' : i < cs.length := by omega
    rw [v5 i (by omega), hcv i hi']; simp [List.getD_eq_getElem?_getD, hi']
  · have hi' : i < cs.length := by omega
    simp only [List.getD_eq_getElem?_getD, List.getElem?_map, List.getElem?_eq_getElem hi', Option.map_some, Option.getD_some]
    exact fits_lo8 _
end StrChars.Road
namespace StrChars.Road
open Jvm Sem ClassFile Op Lib Jvm.Stand Jvm.Free Jvm.Free.XT
/-- WHAT COMES BACK, in the writer's own shape -/
def QV (Z : State) (x : Addr) (N : Int32) (bs : List Int32) (h : Heap) (n0 : Nat) (v : Option Value) (h' : Heap) (L : List Loc) : Prop := v = none ∧ RoadKit.Fr n0 L ∧ RoadKit.Keep h h' [x] ∧ RoadKit.Exa Z h' x ST ∧ RoadKit.Fld Z h' x ST "coder" "B" (.int 0) ∧
  ∃ (t : Addr) (kb : ClassId), n0 ≤ t ∧ h.size ≤ t ∧ ¬ t = x ∧ RoadKit.Fld Z h' x ST "value" "[B" (.ref t) ∧ RoadKit.Arv Z h' t kb .byte N (bs.map Value.int) (.int 0)
/-- **new String(chars) AT A CALL, FOR THE WRITER**: a char[] of n known ints, each 0 to 255 -/
theorem backV {p : Program} {l : Launch} {e : Env} {R : Room} {s : State} {args : Array Value} {below : List Frame} {len W : Nat} {Z : State} {a0 : Array Value} {h : Heap} (hZ : Z.Warmed39 s.vm) (hw : ∀ d ∈ words, d.before a0 Z = true) {kI : Nat} (wi : (Jvm.Cond.instantiable ST kI).before a0 Z = true)
    {x b : Addr} {kC : ClassId} {cs bs : List Int32} {d v0 c0 : Value} {z N : Int32} {n n0 : Nat} (hx0 : n0 ≤ x) (hh0 : n0 ≤ h.size) (E : RoadKit.Exa Z h x ST) (V : RoadKit.Fld Z h x ST "value" "[B" v0) (C : RoadKit.Fld Z h x ST "coder" "B" c0) (K : RoadKit.Arv Z h b kC .char N (cs.map Value.int) d) (S : RoadKit.Sta Z h ST "COMPACT_STRINGS" "Z" (.int z)) (hz : ¬ z = 0)
    (hn : cs.length = n) (hN : N = Int32.ofNat n) (l0 : 0 < n) (l2 : n ≤ 4000) (hp : ∀ c ∈ cs, ¬ c < 0 ∧ ¬ (255 : Int32) < c) (hb : bs = cs.map (fun c => c.toInt8.toInt32)) (hfr : 4 ≤ R.frames) (hlo : W + 65 ≤ R.locals) :
    Back l R p e below s args (⟨"java/lang/String", "<init>", "([C)V"⟩ : MethodName) len W (fun P a => a = #[.ref x, .ref b] ∧ P.U.heap = h ∧ P.cells + 1 ≤ R.cells ∧ P.slots + n ≤ R.slots)
      (fun P _ v B => ∃ L, QV Z x N bs h n0 v B.U.heap L ∧ B.locs = P.locs ++ L ∧ B.cells = P.cells + 1 ∧ B.slots = P.slots + n) := by
  subst hn hN hb
  refine Back.mono (backArv hZ hw wi E V C K S hz (n32 (by omega)) l0 (by omega) (fun c hc => (hp c hc).2) hfr hlo) (fun P a hp => hp) (fun P a v B hp hq => ?_)
  obtain ⟨L, ⟨q1, q2, q3, q4, q5, q6, q7, ⟨kb, v1, v2⟩, q9⟩, hl, hc, hs⟩ := hq
  exact ⟨L, ⟨q1, fun y hy => by rw [q2 y hy]; exact hx0, q3, q5, q7, h.size, kb, hh0, Nat.le_refl _, Nat.ne_of_gt E.lt, q6, by rw [List.map_map]; exact v2⟩, hl, hc, hs⟩
end StrChars.Road
namespace StrChars
open Jvm Sem ClassFile Op Lib Jvm.Stand Jvm.Free.XT Jvm.Free.ALB Jvm.Free.JM Jvm.Free
open Jvm.Lib.Cold (StaticIs)
def hi8 (x : Int32) : Int32 := lo8 (x >>> ((8 : Int32) &&& 31))
/-- what StringUTF16.getChar makes of two bytes -/
def pairCh (u v : Int32) : Int32 := (((u &&& 255) <<< ((0 : Int32) &&& 31)) ||| ((v &&& 255) <<< ((8 : Int32) &&& 31))).toUInt32.toUInt16.toUInt32.toInt32
theorem shr0 (c : Int32) : c >>> ((0 : Int32) &&& 31) = c := by
  have e : ((0 : Int32) &&& 31) = 0 := by decide
  rw [e]
  apply Int32.toBitVec_inj.mp
  rw [Int32.toBitVec_shiftRight]
  have e1 : ((0 : Int32).toBitVec.smod 32) = 0#32 := by decide
  rw [e1, BitVec.sshiftRight_eq']
  exact BitVec.sshiftRight_zero
theorem lo8_and (x : Int32) : (lo8 x &&& 255).toBitVec.toNat = x.toBitVec.toNat % 256 := by
  have h : (lo8 x).toBitVec = (x.toBitVec.signExtend 8).signExtend 32 := by rw [lo8, Int8.toBitVec_toInt32, Int32.toBitVec_toInt8]
  rw [Int32.toBitVec_and, BitVec.toNat_and, h]
  have e : ((x.toBitVec.signExtend 8).signExtend 32).toNat % 256 = x.toBitVec.toNat % 256 := by
    rw [BitVec.toNat_signExtend]
    have hlt := x.toBitVec.isLt
    simp only [BitVec.toNat_setWidth, BitVec.toNat_signExtend]
    split <;> split <;> omega
  rw [← e]
  exact Nat.and_two_pow_sub_one_eq_mod _ 8
theorem pair_says {c : Int32} (h0 : ¬ c < 0) (h1 : ¬ 65535 < c) : pairCh (lo8 c) (hi8 c) = c := by
  rw [Int32.lt_iff_toInt_lt] at h0 h1
  have e0 : (0 : Int32).toInt = 0 := rfl
  have e1 : (65535 : Int32).toInt = 65535 := rfl
  have hc : c.toInt = c.toBitVec.toNat := by
    have := c.toBitVec.isLt
    have e : c.toInt = c.toBitVec.toInt := rfl
    rw [e] at h0 h1
    rw [e]
    rw [BitVec.toInt_eq_toNat_cond] at h0 h1 ⊢
    split at h0 <;> split <;> omega
  have hn : c.toBitVec.toNat < 65536 := by omega
  have a1 := lo8_and c
  have a2 : (hi8 c &&& 255).toBitVec.toNat = c.toBitVec.toNat / 256 := by
    rw [hi8, lo8_and]
    have e : ((8 : Int32) &&& 31) = 8 := by decide
    rw [e, Int32.toBitVec_shiftRight]
    have e2 : ((8 : Int32).toBitVec.smod 32) = 8#32 := by decide
    rw [e2, BitVec.sshiftRight_eq', BitVec.toNat_sshiftRight_of_msb_false (by rw [BitVec.msb_eq_false_iff_two_mul_lt]; omega)]
    show c.toBitVec.toNat >>> 8 % 256 = _
    rw [Nat.shiftRight_eq_div_pow]
    omega
  unfold pairCh
  apply Int32.toBitVec_inj.mp
  apply BitVec.eq_of_toNat_eq
  have f0 : ((0 : Int32) &&& 31) = 0 := by decide
  have f8 : ((8 : Int32) &&& 31) = 8 := by decide
  rw [f0, f8]
  have g : (((lo8 c &&& 255) <<< (0 : Int32)) ||| ((hi8 c &&& 255) <<< (8 : Int32))).toBitVec.toNat = c.toBitVec.toNat := by
    rw [Int32.toBitVec_or, Int32.toBitVec_shiftLeft, Int32.toBitVec_shiftLeft]
    have s0 : ((0 : Int32).toBitVec.smod 32) = 0#32 := by decide
    have s8 : ((8 : Int32).toBitVec.smod 32) = 8#32 := by decide
    rw [s0, s8, BitVec.toNat_or]
    simp only [BitVec.shiftLeft_eq', BitVec.toNat_shiftLeft, a1, a2]
    show (c.toBitVec.toNat % 256) <<< 0 % 2 ^ 32 ||| (c.toBitVec.toNat / 256) <<< 8 % 2 ^ 32 = _
    rw [Nat.shiftLeft_zero, Nat.mod_eq_of_lt (show c.toBitVec.toNat % 256 < 2 ^ 32 by omega), Nat.mod_eq_of_lt (show (c.toBitVec.toNat / 256) <<< 8 < 2 ^ 32 by rw [Nat.shiftLeft_eq]; omega), Nat.or_comm, ← Nat.shiftLeft_add_eq_or_of_lt (by omega), Nat.shiftLeft_eq]
    omega
  show BitVec.toNat (((((lo8 c &&& 255) <<< (0 : Int32)) ||| ((hi8 c &&& 255) <<< (8 : Int32))).toBitVec.setWidth 16).setWidth 32) = _
  rw [BitVec.toNat_setWidth, BitVec.toNat_setWidth, g]
  omega
end StrChars
namespace StrChars
open Jvm Sem ClassFile Op Lib Jvm.Stand Jvm.Free.XT Jvm.Free.ALB Jvm.Free.JM Jvm.Free
open Jvm.Lib.Cold (StaticIs)
theorem shr1 {n : Nat} (h : 2 * n < 2 ^ 31) : Int32.ofNat (2 * n) >>> ((1 : Int32) &&& 31) = Int32.ofNat n := by
  have e : ((1 : Int32) &&& 31) = 1 := by decide
  rw [e]
  apply Int32.toBitVec_inj.mp
  rw [Int32.toBitVec_shiftRight]
  have e1 : ((1 : Int32).toBitVec.smod 32) = 1#32 := by decide
  have hm : (BitVec.ofNat 32 (2 * n)).toNat = 2 * n := by rw [BitVec.toNat_ofNat, Nat.mod_eq_of_lt (by omega)]
  rw [e1, BitVec.sshiftRight_eq']
  apply BitVec.eq_of_toNat_eq
  show ((BitVec.ofNat 32 (2 * n)).sshiftRight 1).toNat = (BitVec.ofNat 32 n).toNat
  rw [BitVec.toNat_sshiftRight_of_msb_false (by rw [BitVec.msb_eq_false_iff_two_mul_lt, hm]; omega), hm, BitVec.toNat_ofNat, Nat.shiftRight_eq_div_pow]
  omega
/-- charAt's cast of a byte read back -/
def chr8 (u : Int32) : Int32 := (u &&& 255).toUInt32.toUInt16.toUInt32.toInt32
theorem chr8_lo8 {c : Int32} (h0 : ¬ c < 0) (h1 : ¬ 255 < c) : chr8 (lo8 c) = c := by
  have t : ∀ k : Fin 256, (Int32.ofNat k.val).toUInt32.toUInt16.toUInt32.toInt32 = Int32.ofNat k.val := by decide +kernel
  unfold chr8
  rw [lo8_mask h0 h1]
  rw [Int32.lt_iff_toInt_lt] at h0 h1
  have e0 : (0 : Int32).toInt = 0 := rfl
  have e1 : (255 : Int32).toInt = 255 := rfl
  obtain ⟨k, hk⟩ : ∃ k : Nat, c.toInt = k := ⟨c.toInt.toNat, by omega⟩
  have hx : c = Int32.ofNat k := Int32.toInt_inj.mp (by rw [hk, Int32.toInt_ofNat_small (by omega)])
  rw [hx]
  exact t ⟨k, by omega⟩
theorem narrow_ch {c : Int32} (h0 : ¬ c < 0) (h1 : ¬ 65535 < c) : narrow .char (.int c) = .int c := by
  have q : narrow .char (.int (pairCh (lo8 c) (hi8 c))) = .int (pairCh (lo8 c) (hi8 c)) := narrow_c _
  rwa [pair_says h0 h1] at q
/-- the array's cell V codes the n chars f 0 .. f (n - 1) by the coder cd, as the JDK does: coder 1 just where some char is above 255 -/
def Cod (cd : Int32) (n : Nat) (f : Nat → Int32) (V : Cell) : Prop := (cd = 0 ∧ V.slots.size = n ∧ ∀ j, j < n → V.slots[j]? = some (.int (lo8 (f j))) ∧ ¬ 255 < f j) ∨ (cd = 1 ∧ V.slots.size = 2 * n ∧ (∀ j, j < n → V.slots[2 * j]? = some (.int (lo8 (f j))) ∧ V.slots[2 * j + 1]? = some (.int (hi8 (f j)))) ∧ ∃ j, j < n ∧ 255 < f j)
theorem Cod.cd {cd : Int32} {n : Nat} {f : Nat → Int32} {V : Cell} (h : Cod cd n f V) : cd = 0 ∨ cd = 1 := h.imp (fun q => q.1) fun q => q.1
theorem Cod.len {cd : Int32} {n : Nat} {f : Nat → Int32} {V : Cell} (h : Cod cd n f V) (hs : V.slots.size < 2 ^ 31) : Int32.ofNat V.slots.size >>> (cd &&& 31) = Int32.ofNat n := by
  rcases h with ⟨rfl, h, -⟩ | ⟨rfl, h, -⟩
  · rw [shr0, h]
  · rw [h, shr1 (by omega)]
/-- **x is a String of the n chars f 0 .. f (n - 1)**, Latin-1 or UTF-16; its array at t has the cell V -/
def Txt (x t : Addr) (V : Cell) (cd : Int32) (n : Nat) (f : Nat → Int32) (U : State) : Prop := Exact "java/lang/String" x U ∧ Has x "java/lang/String" "value" "[B" (.ref t) U ∧ Has x "java/lang/String" "coder" "B" (.int cd) U ∧ XT.Arr .byte t V U ∧ Cod cd n f V ∧ ∀ j, j < n → ¬ f j < 0 ∧ ¬ 65535 < f j
theorem Txt.mv {x t : Addr} {V : Cell} {cd : Int32} {n : Nat} {f : Nat → Int32} {U U' : State} (h : Txt x t V cd n f U) (hal : U.vm.Alike U'.vm) (hh : U'.heap = U.heap) : Txt x t V cd n f U' := ⟨h.1.mv hal hh, h.2.1.mv hal hh, h.2.2.1.mv hal hh, h.2.2.2.1.mv hal hh, h.2.2.2.2⟩
namespace Cdr
def yN : MethodName := ⟨"java/lang/String", "coder", "()B"⟩
abbrev yB : ByteArray := jdk_42_method_152_code
theorem d0 : decode yB 0 = .ok (.getstatic 38, 3) := by decide +kernel
theorem d3 : decode yB 3 = .ok (.ifCond (.eq) 10, 3) := by decide +kernel
theorem d6 : decode yB 6 = .ok (.aload_n 0, 1) := by decide +kernel
theorem d7 : decode yB 7 = .ok (.getfield 15, 3) := by decide +kernel
theorem d10 : decode yB 10 = .ok (.goto 4, 3) := by decide +kernel
theorem d14 : decode yB 14 = .ok (.ireturn, 1) := by decide +kernel
def site : List Cond := [.fieldLink "java/lang/String" 38 "java/lang/String" "COMPACT_STRINGS" "Z", .fieldLink "java/lang/String" 15 "java/lang/String" "coder" "B"]
def tab : Cond := tabOf yN yB 1 (some .byte) site
def P (x : Addr) (cd z : Int32) (args : Array Value) (s : State) : Prop := args = #[.ref x] ∧ Has x "java/lang/String" "coder" "B" (.int cd) s ∧ (cd = 0 ∨ cd = 1) ∧ StaticIs s "java/lang/String" "COMPACT_STRINGS" "Z" (.int z) ∧ ¬ z = 0
def E (cd : Int32) (r : Option Value) (s u : State) : Prop := XT.PureE (some (.int cd)) r s u
theorem law (l : Launch) (x : Addr) (cd z : Int32) : Law l yN 1 0 0 0 yB 1 (some .byte) site (P x cd z) (E cd) [] 0 0 := by
  refine Law.of_walk (plainFor_of_name (by decide +kernel)) (by decide +kernel) (by decide +kernel) (by decide) (fun _ _ h => by rw [h.1]; rfl) (fun _ U U' hal hh h => ⟨h.1, h.2.1.mv hal hh, h.2.2.1, h.2.2.2.1.there hal hh, h.2.2.2.2⟩) (fun r U U' V V' h1 hal h2 h => XT.PureE.mv r U U' V V' h1 hal h2 h) ?_
  intro p e s m args below meth c s₁ X0 hexec hbytes hml hret hlk hnm hown hh0 W hP
  obtain ⟨rfl, hx, hc, s1, hz⟩ := hP
  have c1 : Steps p.tables e below (s₁.setTop (entryFrame m #[.ref x] 1)) (s₁.setTop (mkF m 0 #[.val (.ref x)] [])) := entry rfl
  obtain ⟨T2, X2, q2, st2⟩ := X0.sget hexec hown (wk W (.fieldLink "java/lang/String" 38 "java/lang/String" "COMPACT_STRINGS" "Z")) s1 (fun _ _ h => by rw [hh0]; exact h) (g := (mkF m 0 #[.val (.ref x)] [])) rfl (hb hbytes d0)
  have hh2 := q2.trans hh0
  have c3 : Steps p.tables e below (s₁.setTop (entryFrame m #[.ref x] 1)) (T2.setTop (mkF m 7 #[.val (.ref x)] [.ref x])) := (c1.trans (st2 _ (Steps.refl _))).trans (by
    refine XS.ifNo X2.here hexec rfl (hb hbytes d3) rfl (i0_eq_f hz) ?_
    refine XS.aloadN X2.here hexec rfl (hb hbytes d6) rfl rfl ?_
    exact Steps.refl _)
  obtain ⟨T4, X4, q4, st4⟩ := X2.hget hexec hown (wk W (.fieldLink "java/lang/String" 15 "java/lang/String" "coder" "B")) (hx.mv X2.warmed.alike hh2) (g := (mkF m 7 #[.val (.ref x)] [.ref x])) rfl (rest := []) rfl (hb hbytes d7)
  have c5 : Steps p.tables e below (s₁.setTop (entryFrame m #[.ref x] 1)) (T4.setTop (mkF m 14 #[.val (.ref x)] [.int cd])) := (c3.trans (st4 _ (Steps.refl _))).trans (by
    refine XS.goto X4.here hexec rfl (pc0 := 10) rfl (hb hbytes d10) (by decide) rfl ?_
    exact Steps.refl _)
  exact ⟨T4, some (.int cd), _, _, _, X4, rfl, rfl, rfl, (fun h => by cases h), ⟨rfl, q4.trans hh2⟩, fun fs hl => c5.trans (X4.ireturnOut hexec hret (by rcases hc with rfl | rfl <;> rfl) (Or.inr (Or.inr (Or.inl rfl))) (hb hbytes d14) hl)⟩
end Cdr
namespace Len
def yN : MethodName := ⟨"java/lang/String", "length", "()I"⟩
abbrev yB : ByteArray := jdk_42_method_54_code
theorem d0 : decode yB 0 = .ok (.aload_n 0, 1) := by decide +kernel
theorem d1 : decode yB 1 = .ok (.getfield 9, 3) := by decide +kernel
theorem d4 : decode yB 4 = .ok (.arraylength, 1) := by decide +kernel
theorem d5 : decode yB 5 = .ok (.aload_n 0, 1) := by decide +kernel
theorem d6 : decode yB 6 = .ok (.invokevirtual 335, 3) := by decide +kernel
theorem d9 : decode yB 9 = .ok (.ishr, 1) := by decide +kernel
theorem d10 : decode yB 10 = .ok (.ireturn, 1) := by decide +kernel
def site : List Cond := [.fieldLink "java/lang/String" 9 "java/lang/String" "value" "[B", Cdr.tab] ++ virtW "java/lang/String" 335 "java/lang/String" Cdr.yN Cdr.yN
def tab : Cond := tabOf yN yB 1 (some .int) site
def P (x t : Addr) (V : Cell) (cd : Int32) (n : Nat) (f : Nat → Int32) (z : Int32) (args : Array Value) (s : State) : Prop := args = #[.ref x] ∧ Txt x t V cd n f s ∧ StaticIs s "java/lang/String" "COMPACT_STRINGS" "Z" (.int z) ∧ ¬ z = 0
def E (n : Nat) (r : Option Value) (s u : State) : Prop := XT.PureE (some (.int (Int32.ofNat n))) r s u
/-- length() of a String of n chars, in either coding -/
theorem law (l : Launch) (x t : Addr) (V : Cell) (cd : Int32) (n : Nat) (f : Nat → Int32) (z : Int32) : Law l yN 1 0 1 13 yB 1 (some .int) site (P x t V cd n f z) (E n) [] 0 0 := by
  refine Law.of_walk (plainFor_of_name (by decide +kernel)) (by decide +kernel) (by decide +kernel) (by decide) (fun _ _ h => by rw [h.1]; rfl) (fun _ U U' hal hh h => ⟨h.1, h.2.1.mv hal hh, h.2.2.1.there hal hh, h.2.2.2⟩) (fun r U U' V V' h1 hal h2 h => XT.PureE.mv r U U' V V' h1 hal h2 h) ?_
  intro p e s m args below meth c s₁ X0 hexec hbytes hml hret hlk hnm hown hh0 W hP
  obtain ⟨rfl, hx, s1, hz⟩ := hP
  have v31 := hx.2.2.2.1.2.2.2
  have c1 : Steps p.tables e below (s₁.setTop (entryFrame m #[.ref x] 1)) (s₁.setTop (mkF m 1 #[.val (.ref x)] [.ref x])) := Steps.trans (entry rfl) (by
    show Steps p.tables e below (s₁.setTop (mkF m 0 #[.val (.ref x)] [])) _
    refine XS.aloadN X0.here hexec rfl (hb hbytes d0) rfl rfl ?_
    exact Steps.refl _)
  obtain ⟨T2, X2, q2, st2⟩ := X0.hget hexec hown (wk W (.fieldLink "java/lang/String" 9 "java/lang/String" "value" "[B")) (hx.mv X0.warmed.alike hh0).2.1 (g := (mkF m 1 #[.val (.ref x)] [.ref x])) rfl (rest := []) rfl (hb hbytes d1)
  have hh2 := q2.trans hh0
  have hx2 := hx.mv X2.warmed.alike hh2
  have c3 : Steps p.tables e below (s₁.setTop (entryFrame m #[.ref x] 1)) (T2.setTop (mkF m 6 #[.val (.ref x)] [.ref x, .int (Int32.ofNat V.slots.size)])) := (c1.trans (st2 _ (Steps.refl _))).trans (by
    refine X2.alen hexec hx2.2.2.2.1 rfl rfl (hb hbytes d4) ?_
    refine XS.aloadN X2.here hexec rfl (hb hbytes d5) rfl rfl ?_
    exact Steps.refl _)
  obtain ⟨v4, T4, X4, E4, g4⟩ := X2.callV hexec (Cdr.law l x cd z) hown (wks W (virtW "java/lang/String" 335 "java/lang/String" Cdr.yN Cdr.yN)) rfl (by decide) (wk W Cdr.tab) (W := 1) (Nat.le_of_ble_eq_true rfl) (Nat.le_of_ble_eq_true rfl) (Nat.le_refl _) (Nat.le_refl _) (hx2.1.fc X2.warmed.alike) hx2.1.is (g := (mkF m 6 #[.val (.ref x)] [.ref x, .int (Int32.ofNat V.slots.size)])) rfl (by rw [hml]; rfl) c3 (argsL := []) (rest := [.int (Int32.ofNat V.slots.size)]) rfl rfl (by show 2 * 0 + (1 + 0) ≤ _; decide) (hb hbytes d6) (⟨rfl, hx2.2.2.1, hx.2.2.2.2.1.cd, s1.there X2.warmed.alike hh2, hz⟩)
  obtain ⟨rfl, q4⟩ := E4
  have c5 : Steps p.tables e below (s₁.setTop (entryFrame m #[.ref x] 1)) (T4.setTop (mkF m 10 #[.val (.ref x)] [.int (Int32.ofNat V.slots.size >>> (cd &&& 31))])) := Steps.trans g4 (by
    refine ishr X4.here hexec rfl (hb hbytes d9) rfl ?_
    exact Steps.refl _)
  rw [hx.2.2.2.2.1.len v31] at c5
  exact ⟨T4, some (.int (Int32.ofNat n)), _, _, _, X4, rfl, rfl, rfl, (fun h => by cases h), ⟨rfl, q4.trans hh2⟩, fun fs hl => c5.trans (X4.ireturnOut hexec hret rfl (Or.inl rfl) (hb hbytes d10) hl)⟩
theorem pays {l : Launch} {R : Room} {p : Program} {e : Env} {below : List Frame} {s : State} {sargs : Array Value} {len W : Nat} (x t : Addr) (V : Cell) (cd : Int32) (n : Nat) (f : Nat → Int32) (z : Int32) (htab : tab.before sargs s = true) (hfr : 2 ≤ R.frames) (hlo : W + 25 ≤ R.locals) :
    Back l R p e below s sargs yN len W (fun A₁ a₁ => A₁.cells + 0 ≤ R.cells ∧ A₁.slots + 0 ≤ R.slots ∧ P x t V cd n f z a₁ A₁.U) (fun A₁ _ v₁ B₁ => E n v₁ A₁.U B₁.U ∧ B₁.locs = A₁.locs ++ [] ∧ B₁.cells = A₁.cells + 0 ∧ B₁.slots = A₁.slots + 0) :=
  (law l x t V cd n f z).pays htab hfr (by omega)
end Len
namespace IsL
def yN : MethodName := ⟨"java/lang/String", "isLatin1", "()Z"⟩
abbrev yB : ByteArray := jdk_42_method_154_code
theorem d0 : decode yB 0 = .ok (.getstatic 38, 3) := by decide +kernel
theorem d3 : decode yB 3 = .ok (.ifCond (.eq) 14, 3) := by decide +kernel
theorem d6 : decode yB 6 = .ok (.aload_n 0, 1) := by decide +kernel
theorem d7 : decode yB 7 = .ok (.getfield 15, 3) := by decide +kernel
theorem d10 : decode yB 10 = .ok (.ifCond (.ne) 7, 3) := by decide +kernel
theorem d13 : decode yB 13 = .ok (.iconst 1, 1) := by decide +kernel
theorem d14 : decode yB 14 = .ok (.goto 4, 3) := by decide +kernel
theorem d17 : decode yB 17 = .ok (.iconst 0, 1) := by decide +kernel
theorem d18 : decode yB 18 = .ok (.ireturn, 1) := by decide +kernel
def site : List Cond := [.fieldLink "java/lang/String" 38 "java/lang/String" "COMPACT_STRINGS" "Z", .fieldLink "java/lang/String" 15 "java/lang/String" "coder" "B"]
def tab : Cond := tabOf yN yB 1 (some .boolean) site
def P (x : Addr) (cd z : Int32) (args : Array Value) (s : State) : Prop := args = #[.ref x] ∧ Has x "java/lang/String" "coder" "B" (.int cd) s ∧ (cd = 0 ∨ cd = 1) ∧ StaticIs s "java/lang/String" "COMPACT_STRINGS" "Z" (.int z) ∧ ¬ z = 0
def E (cd : Int32) (r : Option Value) (s u : State) : Prop := XT.PureE (some (.int (1 - cd))) r s u
theorem law (l : Launch) (x : Addr) (cd z : Int32) : Law l yN 1 0 0 0 yB 1 (some .boolean) site (P x cd z) (E cd) [] 0 0 := by
  refine Law.of_walk (plainFor_of_name (by decide +kernel)) (by decide +kernel) (by decide +kernel) (by decide) (fun _ _ h => by rw [h.1]; rfl) (fun _ U U' hal hh h => ⟨h.1, h.2.1.mv hal hh, h.2.2.1, h.2.2.2.1.there hal hh, h.2.2.2.2⟩) (fun r U U' V V' h1 hal h2 h => XT.PureE.mv r U U' V V' h1 hal h2 h) ?_
  intro p e s m args below meth c s₁ X0 hexec hbytes hml hret hlk hnm hown hh0 W hP
  obtain ⟨rfl, hx, hc, s1, hz⟩ := hP
  have c1 : Steps p.tables e below (s₁.setTop (entryFrame m #[.ref x] 1)) (s₁.setTop (mkF m 0 #[.val (.ref x)] [])) := entry rfl
  obtain ⟨T2, X2, q2, st2⟩ := X0.sget hexec hown (wk W (.fieldLink "java/lang/String" 38 "java/lang/String" "COMPACT_STRINGS" "Z")) s1 (fun _ _ h => by rw [hh0]; exact h) (g := (mkF m 0 #[.val (.ref x)] [])) rfl (hb hbytes d0)
  have hh2 := q2.trans hh0
  have c3 : Steps p.tables e below (s₁.setTop (entryFrame m #[.ref x] 1)) (T2.setTop (mkF m 7 #[.val (.ref x)] [.ref x])) := (c1.trans (st2 _ (Steps.refl _))).trans (by
    refine XS.ifNo X2.here hexec rfl (hb hbytes d3) rfl (i0_eq_f hz) ?_
    refine XS.aloadN X2.here hexec rfl (hb hbytes d6) rfl rfl ?_
    exact Steps.refl _)
  obtain ⟨T4, X4, q4, st4⟩ := X2.hget hexec hown (wk W (.fieldLink "java/lang/String" 15 "java/lang/String" "coder" "B")) (hx.mv X2.warmed.alike hh2) (g := (mkF m 7 #[.val (.ref x)] [.ref x])) rfl (rest := []) rfl (hb hbytes d7)
  have c5 : Steps p.tables e below (s₁.setTop (entryFrame m #[.ref x] 1)) (T4.setTop (mkF m 10 #[.val (.ref x)] [.int cd])) := c3.trans (st4 _ (Steps.refl _))
  have c6 : Steps p.tables e below (s₁.setTop (entryFrame m #[.ref x] 1)) (T4.setTop (mkF m 18 #[.val (.ref x)] [.int (1 - cd)])) := by
    rcases hc with rfl | rfl
    · exact c5.trans (by
        refine XS.ifNo X4.here hexec rfl (hb hbytes d10) rfl (i0_ne_f rfl) ?_
        refine iconstV X4.here hexec rfl 1 (hb hbytes d13) (by decide) ?_
        refine XS.goto X4.here hexec rfl (pc0 := 14) rfl (hb hbytes d14) (by decide) rfl ?_
        exact Steps.refl _)
    · exact c5.trans (by
        refine XS.ifYes X4.here hexec rfl (pc0 := 10) rfl (hb hbytes d10) rfl (i0_ne_t (by decide)) (by decide) rfl ?_
        refine iconstV X4.here hexec rfl 0 (hb hbytes d17) (by decide) ?_
        exact Steps.refl _)
  exact ⟨T4, some (.int (1 - cd)), _, _, _, X4, rfl, rfl, rfl, (fun h => by cases h), ⟨rfl, q4.trans hh2⟩, fun fs hl => c6.trans (X4.ireturnOut hexec hret (by rcases hc with rfl | rfl <;> rfl) (Or.inr (Or.inl rfl)) (hb hbytes d18) hl)⟩
end IsL
namespace LChA
def yN : MethodName := ⟨"java/lang/StringLatin1", "charAt", "([BI)C"⟩
abbrev yB : ByteArray := jdk_43_method_2_code
theorem d0 : decode yB 0 = .ok (.iload_n 1, 1) := by decide +kernel
theorem d1 : decode yB 1 = .ok (.aload_n 0, 1) := by decide +kernel
theorem d2 : decode yB 2 = .ok (.arraylength, 1) := by decide +kernel
theorem d3 : decode yB 3 = .ok (.invokestatic 9, 3) := by decide +kernel
theorem d6 : decode yB 6 = .ok (.aload_n 0, 1) := by decide +kernel
theorem d7 : decode yB 7 = .ok (.iload_n 1, 1) := by decide +kernel
theorem d8 : decode yB 8 = .ok (.baload, 1) := by decide +kernel
theorem d9 : decode yB 9 = .ok (.sipush 255, 3) := by decide +kernel
theorem d12 : decode yB 12 = .ok (.iand, 1) := by decide +kernel
theorem d13 : decode yB 13 = .ok (.i2c, 1) := by decide +kernel
theorem d14 : decode yB 14 = .ok (.ireturn, 1) := by decide +kernel
def site : List Cond := [JO.Str_checkIndex.tab] ++ staticW "java/lang/StringLatin1" 9 JO.Str_checkIndex.yN
def tab : Cond := tabOf yN yB 2 (some .char) site
def P (t : Addr) (V : Cell) (i : Nat) (u : Int32) (fm : Value) (args : Array Value) (s : State) : Prop := args = #[.ref t, .int (Int32.ofNat i)] ∧ XT.Arr .byte t V s ∧ V.slots[i]? = some (.int u) ∧ (StaticIs s "jdk/internal/util/Preconditions" "SIOOBE_FORMATTER" "Ljava/util/function/BiFunction;" fm ∧ fm.isRef = true)
def E (u : Int32) (r : Option Value) (s w : State) : Prop := XT.PureE (some (.int (chr8 u))) r s w
theorem law (l : Launch) (t : Addr) (V : Cell) (i : Nat) (u : Int32) (fm : Value) : Law l yN 2 2 2 27 yB 2 (some .char) site (P t V i u fm) (E u) [] 0 0 := by
  refine Law.of_walk (plainFor_of_name (by decide +kernel)) (by decide +kernel) (by decide +kernel) (by decide) (fun _ _ h => by rw [h.1]; rfl) (fun _ U U' hal hh h => ⟨h.1, h.2.1.mv hal hh, h.2.2.1, h.2.2.2.1.there hal hh, h.2.2.2.2⟩) (fun r U U' V V' h1 hal h2 h => XT.PureE.mv r U U' V V' h1 hal h2 h) ?_
  intro p e s m args below meth c s₁ X0 hexec hbytes hml hret hlk hnm hown hh0 W hP
  obtain ⟨rfl, hV, hu, s1, rf⟩ := hP
  have v31 := hV.2.2.2
  have hi : i < V.slots.size := (Array.getElem?_eq_some_iff.mp hu).1
  have c1 : Steps p.tables e below (s₁.setTop (entryFrame m #[.ref t, .int (Int32.ofNat i)] 2)) (s₁.setTop (mkF m 0 #[.val (.ref t), .val (.int (Int32.ofNat i))] [])) := entry rfl
  have c2 : Steps p.tables e below (s₁.setTop (entryFrame m #[.ref t, .int (Int32.ofNat i)] 2)) (s₁.setTop (mkF m 3 #[.val (.ref t), .val (.int (Int32.ofNat i))] [.int (Int32.ofNat V.slots.size), .int (Int32.ofNat i)])) := c1.trans (by
    refine XS.iloadN X0.here hexec rfl (hb hbytes d0) rfl ?_
    refine XS.aloadN X0.here hexec rfl (hb hbytes d1) rfl rfl ?_
    refine X0.alen hexec (hV.mv X0.warmed.alike hh0) rfl rfl (hb hbytes d2) ?_
    exact Steps.refl _)
  obtain ⟨v3, T3, X3, E3, g3⟩ := X0.callS hexec (JO.Str_checkIndex.law l (Int32.ofNat i) (Int32.ofNat V.slots.size) fm) hown (wks W (staticW "java/lang/StringLatin1" 9 JO.Str_checkIndex.yN)) (wk W JO.Str_checkIndex.tab) (W := 0) (Nat.le_of_ble_eq_true rfl) (Nat.le_of_ble_eq_true rfl) (Nat.le_refl _) (Nat.le_refl _) (g := (mkF m 3 #[.val (.ref t), .val (.int (Int32.ofNat i))] [.int (Int32.ofNat V.slots.size), .int (Int32.ofNat i)])) rfl (by rw [hml]; rfl) c2 (argsL := [.int (Int32.ofNat i), .int (Int32.ofNat V.slots.size)]) (rest := []) rfl rfl (by show 2 * 0 + 0 ≤ _; decide) (hb hbytes d3) (⟨rfl, rf, s1.there X0.warmed.alike hh0, Int32.ofNat_not_neg (by omega), lt32 v31 hi⟩)
  obtain ⟨rfl, q3⟩ := E3
  have hh3 := q3.trans hh0
  have c4 : Steps p.tables e below (s₁.setTop (entryFrame m #[.ref t, .int (Int32.ofNat i)] 2)) (T3.setTop (mkF m 14 #[.val (.ref t), .val (.int (Int32.ofNat i))] [.int (chr8 u)])) := Steps.trans g3 (by
    refine XS.aloadN X3.here hexec rfl (hb hbytes d6) rfl rfl ?_
    refine XS.iloadN X3.here hexec rfl (hb hbytes d7) rfl ?_
    refine X3.aget hexec (hV.mv X3.warmed.alike hh3) rfl hu rfl rfl (hb hbytes d8) ?_
    refine sipushV X3.here hexec rfl 255 (hb hbytes d9) (by decide) ?_
    refine XS.iand X3.here hexec rfl (hb hbytes d12) rfl ?_
    refine i2c X3.here hexec rfl (hb hbytes d13) rfl ?_
    exact Steps.refl _)
  exact ⟨T3, some (.int (chr8 u)), _, _, _, X3, rfl, rfl, rfl, (fun h => by cases h), ⟨rfl, hh3⟩, fun fs hl => c4.trans (X3.ireturnOut hexec hret (narrow_c _) (Or.inr (Or.inr (Or.inr (Or.inl rfl)))) (hb hbytes d14) hl)⟩
end LChA
end StrChars
namespace StrChars.Road
open Jvm Sem ClassFile Op Lib Jvm.Stand Jvm.Free Jvm.Free.XT
open Jvm.Lib.Cold (StaticIs)
theorem consq {a : Array Value} {s : State} {c : Jvm.Cond} {L : List Jvm.Cond} (h0 : c.before a s = true) (h : ∀ w ∈ L, w.before a s = true) : ∀ w ∈ c :: L, w.before a s = true := fun w hw => (List.mem_cons.mp hw).elim (fun e => e ▸ h0) (h w)
/-- the words of String.length(), either coding -/
abbrev wordsLen : List Jvm.Cond := [.code Len.yN Len.yB 1 (some .int), .initialized ST, .fieldLink ST 9 ST "value" "[B", .fieldLink ST 38 ST "COMPACT_STRINGS" "Z", .fieldLink ST 15 ST "coder" "B", .code Cdr.yN Cdr.yB 1 (some .byte), .methodLink ST 335 Cdr.yN, .declares Cdr.yN, .selects ST Cdr.yN Cdr.yN, .instanceMethod Cdr.yN]
theorem tabLen_of {a : Array Value} {s : State} (h : ∀ w ∈ wordsLen, w.before a s = true) : Len.tab.before a s = true := by
  have hc : Cdr.tab.before a s = true := unparts (wk h (.code Cdr.yN Cdr.yB 1 (some .byte))) (wks h (.initialized Cdr.yN.cls :: Cdr.site))
  have q := consq hc h
  exact unparts (wk q (.code Len.yN Len.yB 1 (some .int))) (wks q (.initialized Len.yN.cls :: Len.site))
theorem movedLen {Z s : State} {a0 args : Array Value} (hZ : Z.Warmed39 s.vm) (hw : ∀ d ∈ wordsLen, d.before a0 Z = true) : ∀ d ∈ wordsLen, d.before args s = true := fun d hd => by
  have q := hw d hd
  have t : ∀ d ∈ wordsLen, d = .arrayClass .byte ∨ (d.onTables && d.keepsFace) = true := by decide +kernel
  rcases t d hd with rfl | t
  · exact RoadKit.mvA hZ q
  · exact RoadKit.mv hZ q t
/-- the bytes of the chars cs, low before high -/
def wideBytes : List Int32 → List Value
  | [] => []
  | c :: cs => .int (lo8 c) :: .int (hi8 c) :: wideBytes cs
theorem wide_lo (d : Value) : ∀ (cs : List Int32) (j : Nat), j < cs.length → (wideBytes cs).getD (2 * j) d = .int (lo8 (cs.getD j 0))
  | [], j, h => absurd h (Nat.not_lt_zero j)
  | c :: cs, 0, _ => rfl
  | c :: cs, j + 1, h => by
    have q := wide_lo d cs j (by simpa using h)
    rw [show 2 * (j + 1) = 2 * j + 1 + 1 from by omega]
    simpa [wideBytes] using q
theorem wide_hi (d : Value) : ∀ (cs : List Int32) (j : Nat), j < cs.length → (wideBytes cs).getD (2 * j + 1) d = .int (hi8 (cs.getD j 0))
  | [], j, h => absurd h (Nat.not_lt_zero j)
  | c :: cs, 0, _ => rfl
  | c :: cs, j + 1, h => by
    have q := wide_hi d cs j (by simpa using h)
    rw [show 2 * (j + 1) + 1 = 2 * j + 1 + 1 + 1 from by omega]
    simpa [wideBytes] using q
theorem low_at (d : Value) (cs : List Int32) (j : Nat) (h : j < cs.length) : (cs.map fun c => Value.int (lo8 c)).getD j d = .int (lo8 (cs.getD j 0)) := by
  simp [List.getD_eq_getElem?_getD, h]
/-- an array of N2 bytes vs codes the chars cs by the coder cd -/
def CodA (cs : List Int32) (cd N2 : Int32) (vs : List Value) : Prop := (cd = 0 ∧ N2 = Int32.ofNat cs.length ∧ vs = (cs.map fun c => Value.int (lo8 c)) ∧ ∀ c ∈ cs, ¬ 255 < c) ∨ (cd = 1 ∧ N2 = Int32.ofNat (2 * cs.length) ∧ vs = wideBytes cs ∧ ∃ c ∈ cs, 255 < c)
theorem CodA.cod {cs : List Int32} {cd N2 : Int32} {vs : List Value} {V : Cell} (h : CodA cs cd N2 vs) (hn : 2 * cs.length < 2 ^ 31) (hs : V.slots.size = N2.toNatClampNeg) (hv : RoadKit.Has V vs (.int 0)) : Cod cd cs.length (fun j => cs.getD j 0) V := by
  rcases h with ⟨rfl, rfl, rfl, h⟩ | ⟨rfl, rfl, rfl, c, hc, hw⟩
  · rw [n32 (by omega)] at hs
    exact Or.inl ⟨rfl, hs, fun j hj => ⟨by rw [hv j (by omega), low_at _ _ _ hj], by
      have e : cs.getD j 0 = cs[j] := by simp [List.getD_eq_getElem?_getD, hj]
      show ¬ 255 < cs.getD j 0
      rw [e]; exact h _ (List.getElem_mem _)⟩⟩
  · rw [n32 (by omega)] at hs
    obtain ⟨j, hj, rfl⟩ := List.getElem_of_mem hc
    exact Or.inr ⟨rfl, hs, fun j hj => ⟨by rw [hv _ (by omega), wide_lo _ _ _ hj], by rw [hv _ (by omega), wide_hi _ _ _ hj]⟩, j, hj, by
      have e : cs.getD j 0 = cs[j] := by simp [List.getD_eq_getElem?_getD, hj]
      show 255 < cs.getD j 0
      rw [e]; exact hw⟩
/-- an object of exactly java/lang/String, its two fields found: as the laws ask it -/
theorem strObj {Z U : State} {a0 : Array Value} {kI : Nat} (wi : (Jvm.Cond.instantiable ST kI).before a0 Z = true) (al : Z.vm.Alike U.vm) {x : Addr} {v0 c0 : Value} (E : RoadKit.Exa Z U.heap x ST) (V : RoadKit.Fld Z U.heap x ST "value" "[B" v0) (C : RoadKit.Fld Z U.heap x ST "coder" "B" c0) :
    ∃ (D : Cell) (fV fC : Field), Blank ST x D U ∧ Found ST "value" "[B" fV U ∧ Found ST "coder" "B" fC U ∧ D.slots[fV.slot]? = some v0 ∧ D.slots[fC.slot]? = some c0 ∧ RoadKit.slotOf Z ST "value" "[B" = fV.slot ∧ RoadKit.slotOf Z ST "coder" "B" = fC.slot := by
  obtain ⟨D, cfV, kV, iV, fV, hD, gV, stV, knV, obV, asV, slV⟩ := V
  obtain ⟨D', cfC, kC, iC, fC, hD', gC, stC, -, -, asC, slC⟩ := C
  cases hD.symm.trans hD'
  obtain ⟨D2, kD, e1, e2, e3, e4, e5⟩ := E
  cases hD.symm.trans e1
  obtain ⟨c2, k2, i1, i2, i3, -⟩ := Cond.instantiable_spec wi
  cases e2.symm.trans i1
  cases e3.symm.trans i2
  obtain ⟨kU, u1, u2⟩ := al.2.2 _ _ e3
  exact ⟨D, fV, fC, ⟨hD, ⟨knV, fun q hq => by rw [hq] at obV; cases obV⟩, by rw [al.findClass]; exact e2, kU, u1, by rw [u2]; exact i3, by rw [u2]; exact e5 i3⟩, ⟨SBG.found_only al ⟨cfV, kV, iV, gV⟩, stV⟩, ⟨SBG.found_only al ⟨cfC, kC, iC, gC⟩, stC⟩, slV, slC, by simp [RoadKit.slotOf, gV], by simp [RoadKit.slotOf, gC]⟩
theorem sta_is {Z U : State} (al : Z.vm.Alike U.vm) {C n d : String} {v : Value} (S : RoadKit.Sta Z U.heap C n d v) : StaticIs U C n d v := by
  obtain ⟨cfS, iS, kS, fS, st, cS, t1, t2, t3, t4, t5, t6, t7⟩ := S
  exact StaticIs.there (s := { Z with heap := U.heap }) ⟨cfS, iS, kS, fS, st, cS, t1, t2, t3, t4, t5, (fun q => by rw [q] at t6; cases t6), t7⟩ al rfl
/-- **length() OF SUCH A STRING** -/
theorem lenW {p : Program} {l : Launch} {e : Env} {R : Room} {s : State} {args : Array Value} {below : List Frame} {len W : Nat} {Z : State} {a0 : Array Value} {h : Heap} (hZ : Z.Warmed39 s.vm) (hw : ∀ d ∈ wordsLen, d.before a0 Z = true) {kI : Nat} (wi : (Jvm.Cond.instantiable ST kI).before a0 Z = true)
    {x t : Addr} {kb : ClassId} {cs : List Int32} {cd N2 z : Int32} {vs : List Value} (E : RoadKit.Exa Z h x ST) (V : RoadKit.Fld Z h x ST "value" "[B" (.ref t)) (C : RoadKit.Fld Z h x ST "coder" "B" (.int cd)) (K : RoadKit.Arv Z h t kb .byte N2 vs (.int 0)) (hc : CodA cs cd N2 vs) (hb : ∀ c ∈ cs, ¬ c < 0 ∧ ¬ (65535 : Int32) < c)
    (S : RoadKit.Sta Z h ST "COMPACT_STRINGS" "Z" (.int z)) (hz : ¬ z = 0) (l2 : cs.length ≤ 4000) (hfr : 2 ≤ R.frames) (hlo : W + 25 ≤ R.locals) :
    Back l R p e below s args (⟨"java/lang/String", "length", "()I"⟩ : MethodName) len W (fun P a => a = #[.ref x] ∧ P.U.heap = h ∧ P.cells + 0 ≤ R.cells ∧ P.slots + 0 ≤ R.slots)
      (fun P _ v B => ∃ L, (v = some (.int (Int32.ofNat cs.length)) ∧ L = [] ∧ B.U.heap = h) ∧ B.locs = P.locs ++ L ∧ B.cells = P.cells + 0 ∧ B.slots = P.slots + 0) := by
  obtain ⟨A, K1, K2, K3, K4, K5, K6⟩ := K
  have hcod := hc.cod (by omega) K3 K5
  intro m meth c P g ig mk a X hg hsize hdg hW hn hp'
  obtain ⟨rfl, rfl, r1, r2⟩ := hp'
  have al : Z.vm.Alike P.U.vm := hZ.alike.trans X.warmed.alike
  obtain ⟨D, fV, fC, hB, F1, F2, g1, g2, -, -⟩ := strObj wi al E V C
  have hx : Txt x t A cd cs.length (fun j => cs.getD j 0) P.U := ⟨⟨_, hB.2.2.1, D, hB.1, rfl, by cases q : D.vm <;> first | rfl | exact absurd q (hB.2.1.2 _)⟩, Has.of hB F1 g1, Has.of hB F2 g2, ⟨K1.1, State.isArrayOf_alike al K1.2.1, K1.2.2, by rcases hcod with ⟨-, q, -⟩ | ⟨-, q, -⟩ <;> omega⟩, hcod, fun j hj => by
    have e : cs.getD j 0 = cs[j] := by simp [List.getD_eq_getElem?_getD, hj]
    show ¬ cs.getD j 0 < 0 ∧ ¬ 65535 < cs.getD j 0
    rw [e]; exact hb _ (List.getElem_mem _)⟩
  obtain ⟨v, B, X', ⟨⟨hv, hh⟩, hl, hk, hs⟩, st⟩ := Len.pays x t A cd cs.length (fun j => cs.getD j 0) z (tabLen_of (movedLen hZ hw)) hfr hlo m meth c P g ig mk _ X hg hsize hdg hW hn ⟨r1, r2, rfl, hx, sta_is al S, hz⟩
  exact ⟨v, B, X', ⟨[], ⟨hv, rfl, hh⟩, hl, hk, hs⟩, st⟩
end StrChars.Road
namespace StrChars.Road
open Jvm Sem ClassFile Op Lib Jvm.Stand Jvm.Free Jvm.Free.XT
open Jvm.Lib.Cold (StaticIs)
/-- the road's facts of a String, as the laws ask it -/
theorem txt_of {Z U : State} {a0 : Array Value} {kI : Nat} (wi : (Jvm.Cond.instantiable ST kI).before a0 Z = true) (al : Z.vm.Alike U.vm) {x t : Addr} {kb : ClassId} {cs : List Int32} {cd N2 : Int32} {vs : List Value} (E : RoadKit.Exa Z U.heap x ST) (V : RoadKit.Fld Z U.heap x ST "value" "[B" (.ref t)) (C : RoadKit.Fld Z U.heap x ST "coder" "B" (.int cd)) (K : RoadKit.Arv Z U.heap t kb .byte N2 vs (.int 0)) (hc : CodA cs cd N2 vs) (hb : ∀ c ∈ cs, ¬ c < 0 ∧ ¬ (65535 : Int32) < c) (l2 : cs.length ≤ 4000) :
    ∃ A, Txt x t A cd cs.length (fun j => cs.getD j 0) U := by
  obtain ⟨A, K1, K2, K3, K4, K5, K6⟩ := K
  have hcod := hc.cod (by omega) K3 K5
  obtain ⟨D, fV, fC, hB, F1, F2, g1, g2, -, -⟩ := strObj wi al E V C
  exact ⟨A, ⟨_, hB.2.2.1, D, hB.1, rfl, by cases q : D.vm <;> first | rfl | exact absurd q (hB.2.1.2 _)⟩, Has.of hB F1 g1, Has.of hB F2 g2, ⟨K1.1, State.isArrayOf_alike al K1.2.1, K1.2.2, by rcases hcod with ⟨-, q, -⟩ | ⟨-, q, -⟩ <;> omega⟩, hcod, fun j hj => by
    have e : cs.getD j 0 = cs[j] := by simp [List.getD_eq_getElem?_getD, hj]
    show ¬ cs.getD j 0 < 0 ∧ ¬ 65535 < cs.getD j 0
    rw [e]; exact hb _ (List.getElem_mem _)⟩
end StrChars.Road
namespace StrChars
open Jvm Sem ClassFile Op Lib Jvm.Stand Jvm.Free.XT Jvm.Free.ALB Jvm.Free.JM Jvm.Free
open Jvm.Lib.Cold (StaticIs)
namespace ChN
def yN : MethodName := ⟨"java/lang/String", "charAt", "(I)C"⟩
abbrev yB : ByteArray := jdk_42_method_56_code
theorem d0 : decode yB 0 = .ok (.aload_n 0, 1) := by decide +kernel
theorem d1 : decode yB 1 = .ok (.invokevirtual 492, 3) := by decide +kernel
theorem d4 : decode yB 4 = .ok (.ifCond (.eq) 12, 3) := by decide +kernel
theorem d7 : decode yB 7 = .ok (.aload_n 0, 1) := by decide +kernel
theorem d8 : decode yB 8 = .ok (.getfield 9, 3) := by decide +kernel
theorem d11 : decode yB 11 = .ok (.iload_n 1, 1) := by decide +kernel
theorem d12 : decode yB 12 = .ok (.invokestatic 495, 3) := by decide +kernel
theorem d15 : decode yB 15 = .ok (.ireturn, 1) := by decide +kernel
def site : List Cond := [.fieldLink "java/lang/String" 9 "java/lang/String" "value" "[B", IsL.tab, LChA.tab] ++ virtW "java/lang/String" 492 "java/lang/String" IsL.yN IsL.yN ++ staticW "java/lang/String" 495 LChA.yN
def tab : Cond := tabOf yN yB 2 (some .char) site
def P (x t : Addr) (V : Cell) (n : Nat) (f : Nat → Int32) (z : Int32) (fm : Value) (i : Nat) (args : Array Value) (s : State) : Prop := args = #[.ref x, .int (Int32.ofNat i)] ∧ Txt x t V 0 n f s ∧ i < n ∧ StaticIs s "java/lang/String" "COMPACT_STRINGS" "Z" (.int z) ∧ ¬ z = 0 ∧ StaticIs s "jdk/internal/util/Preconditions" "SIOOBE_FORMATTER" "Ljava/util/function/BiFunction;" fm ∧ fm.isRef = true
def E (f : Nat → Int32) (i : Nat) (r : Option Value) (s u : State) : Prop := XT.PureE (some (.int (f i))) r s u
/-- charAt(i) of a Latin-1 String of n chars, i < n: f i -/
theorem law (l : Launch) (x t : Addr) (V : Cell) (n : Nat) (f : Nat → Int32) (z : Int32) (fm : Value) (i : Nat) : Law l yN 2 1 3 40 yB 2 (some .char) site (P x t V n f z fm i) (E f i) [] 0 0 := by
  refine Law.of_walk (plainFor_of_name (by decide +kernel)) (by decide +kernel) (by decide +kernel) (by decide) (fun _ _ h => by rw [h.1]; rfl) (fun _ U U' hal hh h => ⟨h.1, h.2.1.mv hal hh, h.2.2.1, h.2.2.2.1.there hal hh, h.2.2.2.2.1, h.2.2.2.2.2.1.there hal hh, h.2.2.2.2.2.2⟩) (fun r U U' V V' h1 hal h2 h => XT.PureE.mv r U U' V V' h1 hal h2 h) ?_
  intro p e s m args below meth c s₁ X0 hexec hbytes hml hret hlk hnm hown hh0 W hP
  obtain ⟨rfl, hx, hi, s1, hz, s3, rf⟩ := hP
  have v31 := hx.2.2.2.1.2.2.2
  have hr := hx.2.2.2.2.2 i hi
  have hx0 := hx.mv X0.warmed.alike hh0
  have c1 : Steps p.tables e below (s₁.setTop (entryFrame m #[.ref x, .int (Int32.ofNat i)] 2)) (s₁.setTop (mkF m 1 #[.val (.ref x), .val (.int (Int32.ofNat i))] [.ref x])) := Steps.trans (entry rfl) (by
    show Steps p.tables e below (s₁.setTop (mkF m 0 #[.val (.ref x), .val (.int (Int32.ofNat i))] [])) _
    refine XS.aloadN X0.here hexec rfl (hb hbytes d0) rfl rfl ?_
    exact Steps.refl _)
  obtain ⟨v2, T2, X2, E2, g2⟩ := X0.callV hexec (IsL.law l x 0 z) hown (wks W (virtW "java/lang/String" 492 "java/lang/String" IsL.yN IsL.yN)) rfl (by decide) (wk W IsL.tab) (W := 0) (Nat.le_of_ble_eq_true rfl) (Nat.le_of_ble_eq_true rfl) (Nat.le_refl _) (Nat.le_refl _) (hx0.1.fc X0.warmed.alike) hx0.1.is (g := (mkF m 1 #[.val (.ref x), .val (.int (Int32.ofNat i))] [.ref x])) rfl (by rw [hml]; rfl) c1 (argsL := []) (rest := []) rfl rfl (by show 2 * 0 + 0 ≤ _; decide) (hb hbytes d1) (⟨rfl, hx0.2.2.1, hx.2.2.2.2.1.cd, s1.there X0.warmed.alike hh0, hz⟩)
  obtain ⟨rfl, q2⟩ := E2
  have hh2 := q2.trans hh0
  have hx2 := hx.mv X2.warmed.alike hh2
  obtain ⟨-, k1, k2⟩ | ⟨k0, -⟩ := hx.2.2.2.2.1
  · have c3 : Steps p.tables e below (s₁.setTop (entryFrame m #[.ref x, .int (Int32.ofNat i)] 2)) (T2.setTop (mkF m 8 #[.val (.ref x), .val (.int (Int32.ofNat i))] [.ref x])) := Steps.trans g2 (by
      refine XS.ifNo X2.here hexec rfl (hb hbytes d4) rfl (i0_eq_f (by decide)) ?_
      refine XS.aloadN X2.here hexec rfl (hb hbytes d7) rfl rfl ?_
      exact Steps.refl _)
    obtain ⟨T4, X4, q4, st4⟩ := X2.hget hexec hown (wk W (.fieldLink "java/lang/String" 9 "java/lang/String" "value" "[B")) hx2.2.1 (g := (mkF m 8 #[.val (.ref x), .val (.int (Int32.ofNat i))] [.ref x])) rfl (rest := []) rfl (hb hbytes d8)
    have hh4 := q4.trans hh2
    have c5 : Steps p.tables e below (s₁.setTop (entryFrame m #[.ref x, .int (Int32.ofNat i)] 2)) (T4.setTop (mkF m 12 #[.val (.ref x), .val (.int (Int32.ofNat i))] [.int (Int32.ofNat i), .ref t])) := (c3.trans (st4 _ (Steps.refl _))).trans (by
      refine XS.iloadN X4.here hexec rfl (hb hbytes d11) rfl ?_
      exact Steps.refl _)
    obtain ⟨v6, T6, X6, E6, g6⟩ := X4.callS hexec (LChA.law l t V i (lo8 (f i)) fm) hown (wks W (staticW "java/lang/String" 495 LChA.yN)) (wk W LChA.tab) (W := 0) (Nat.le_of_ble_eq_true rfl) (Nat.le_of_ble_eq_true rfl) (Nat.le_refl _) (Nat.le_refl _) (g := (mkF m 12 #[.val (.ref x), .val (.int (Int32.ofNat i))] [.int (Int32.ofNat i), .ref t])) rfl (by rw [hml]; rfl) c5 (argsL := [.ref t, .int (Int32.ofNat i)]) (rest := []) rfl rfl (by show 2 * 0 + 0 ≤ _; decide) (hb hbytes d12) (⟨rfl, hx.2.2.2.1.mv X4.warmed.alike hh4, (k2 i hi).1, s3.there X4.warmed.alike hh4, rf⟩)
    obtain ⟨rfl, q6⟩ := E6
    rw [chr8_lo8 hr.1 (k2 i hi).2] at g6
    exact ⟨T6, some (.int (f i)), _, _, _, X6, rfl, rfl, rfl, (fun h => by cases h), ⟨rfl, q6.trans hh4⟩, fun fs hl => Steps.trans g6 (X6.ireturnOut hexec hret (narrow_ch hr.1 hr.2) (Or.inr (Or.inr (Or.inr (Or.inl rfl)))) (hb hbytes d15) hl)⟩
  · exact absurd k0 (by decide)
theorem pays {l : Launch} {R : Room} {p : Program} {e : Env} {below : List Frame} {s : State} {sargs : Array Value} {len W : Nat} (x t : Addr) (V : Cell) (n : Nat) (f : Nat → Int32) (z : Int32) (fm : Value) (i : Nat) (htab : tab.before sargs s = true) (hfr : 4 ≤ R.frames) (hlo : W + 53 ≤ R.locals) :
    Back l R p e below s sargs yN len W (fun A₁ a₁ => A₁.cells + 0 ≤ R.cells ∧ A₁.slots + 0 ≤ R.slots ∧ P x t V n f z fm i a₁ A₁.U) (fun A₁ _ v₁ B₁ => E f i v₁ A₁.U B₁.U ∧ B₁.locs = A₁.locs ++ [] ∧ B₁.cells = A₁.cells + 0 ∧ B₁.slots = A₁.slots + 0) :=
  (law l x t V n f z fm i).pays htab hfr (by omega)
end ChN
end StrChars
namespace StrChars.Road
open Jvm Sem ClassFile Op Lib Jvm.Stand Jvm.Free Jvm.Free.XT
open Jvm.Lib.Cold (StaticIs)
/-- the words of String.charAt(int), the Latin-1 road alone -/
abbrev wordsChN : List Jvm.Cond := [.code ChN.yN ChN.yB 2 (some .char), .initialized ST, .fieldLink ST 9 ST "value" "[B", .fieldLink ST 38 ST "COMPACT_STRINGS" "Z", .fieldLink ST 15 ST "coder" "B", .code IsL.yN IsL.yB 1 (some .boolean), .methodLink ST 492 IsL.yN, .declares IsL.yN, .selects ST IsL.yN IsL.yN, .instanceMethod IsL.yN,
  .methodLink ST 495 LChA.yN, .static LChA.yN, .code LChA.yN LChA.yB 2 (some .char), .initialized "java/lang/StringLatin1", .methodLink "java/lang/StringLatin1" 9 JO.Str_checkIndex.yN, .static JO.Str_checkIndex.yN, .code JO.Str_checkIndex.yN JO.Str_checkIndex.yB 2 none,
  .fieldLink ST 1053 "jdk/internal/util/Preconditions" "SIOOBE_FORMATTER" "Ljava/util/function/BiFunction;", .methodLink ST 1059 JC.PreCheck.yN, .static JC.PreCheck.yN, .code JC.PreCheck.yN JC.PreCheck.yB 3 (some .int), .initialized "jdk/internal/util/Preconditions"]
theorem tabChN_of {a : Array Value} {s : State} (h : ∀ w ∈ wordsChN, w.before a s = true) : ChN.tab.before a s = true := by
  have hp : JC.PreCheck.tab.before a s = true := unparts (wk h (.code JC.PreCheck.yN JC.PreCheck.yB 3 (some .int))) (wks h (.initialized JC.PreCheck.yN.cls :: JC.PreCheck.site))
  have qk := consq hp h
  have hk : JO.Str_checkIndex.tab.before a s = true := unparts (wk qk (.code JO.Str_checkIndex.yN JO.Str_checkIndex.yB 2 none)) (wks qk (.initialized JO.Str_checkIndex.yN.cls :: JO.Str_checkIndex.site))
  have ql := consq hk h
  have hl : LChA.tab.before a s = true := unparts (wk ql (.code LChA.yN LChA.yB 2 (some .char))) (wks ql (.initialized LChA.yN.cls :: LChA.site))
  have hi : IsL.tab.before a s = true := unparts (wk h (.code IsL.yN IsL.yB 1 (some .boolean))) (wks h (.initialized IsL.yN.cls :: IsL.site))
  have q := consq hi (consq hl h)
  exact unparts (wk q (.code ChN.yN ChN.yB 2 (some .char))) (wks q (.initialized ChN.yN.cls :: ChN.site))
theorem movedChN {Z s : State} {a0 args : Array Value} (hZ : Z.Warmed39 s.vm) (hw : ∀ d ∈ wordsChN, d.before a0 Z = true) : ∀ d ∈ wordsChN, d.before args s = true := fun d hd => by
  have t : ∀ d ∈ wordsChN, (d.onTables && d.keepsFace) = true := by decide +kernel
  exact RoadKit.mv hZ (hw d hd) (t d hd)
/-- **charAt(i) OF A LATIN-1 STRING**, i < n: the char -/
theorem chN {p : Program} {l : Launch} {e : Env} {R : Room} {s : State} {args : Array Value} {below : List Frame} {len W : Nat} {Z : State} {a0 : Array Value} {h : Heap} (hZ : Z.Warmed39 s.vm) (hw : ∀ d ∈ wordsChN, d.before a0 Z = true) {kI : Nat} (wi : (Jvm.Cond.instantiable ST kI).before a0 Z = true)
    {x t : Addr} {kb : ClassId} {cs : List Int32} {N2 z : Int32} {vs : List Value} {fm : Value} {i : Nat} {j : Int32} (E : RoadKit.Exa Z h x ST) (V : RoadKit.Fld Z h x ST "value" "[B" (.ref t)) (C : RoadKit.Fld Z h x ST "coder" "B" (.int 0)) (K : RoadKit.Arv Z h t kb .byte N2 vs (.int 0)) (hc : CodA cs 0 N2 vs) (hb : ∀ c ∈ cs, ¬ c < 0 ∧ ¬ (65535 : Int32) < c)
    (S : RoadKit.Sta Z h ST "COMPACT_STRINGS" "Z" (.int z)) (hz : ¬ z = 0) (F : RoadKit.Sta Z h "jdk/internal/util/Preconditions" "SIOOBE_FORMATTER" "Ljava/util/function/BiFunction;" fm) (rf : fm.isRef = true) (l2 : cs.length ≤ 4000) (hi : i < cs.length) (hj : j = Int32.ofNat i) (hfr : 4 ≤ R.frames) (hlo : W + 53 ≤ R.locals) :
    Back l R p e below s args (⟨"java/lang/String", "charAt", "(I)C"⟩ : MethodName) len W (fun P a => a = #[.ref x, .int j] ∧ P.U.heap = h ∧ P.cells + 0 ≤ R.cells ∧ P.slots + 0 ≤ R.slots)
      (fun P _ v B => ∃ L, (v = some (.int (cs.getD i 0)) ∧ L = [] ∧ B.U.heap = h) ∧ B.locs = P.locs ++ L ∧ B.cells = P.cells + 0 ∧ B.slots = P.slots + 0) := by
  subst hj
  intro m meth c P g ig mk a X hg hsize hdg hW hn hp'
  obtain ⟨rfl, rfl, r1, r2⟩ := hp'
  have al : Z.vm.Alike P.U.vm := hZ.alike.trans X.warmed.alike
  obtain ⟨A, hx⟩ := txt_of wi al E V C K hc hb l2
  obtain ⟨v, B, X', ⟨⟨hv, hh⟩, hl, hk, hs⟩, st⟩ := ChN.pays x t A cs.length (fun j => cs.getD j 0) z fm i (tabChN_of (movedChN hZ hw)) hfr hlo m meth c P g ig mk _ X hg hsize hdg hW hn ⟨r1, r2, rfl, hx, hi, sta_is al S, hz, sta_is al F, rf⟩
  exact ⟨v, B, X', ⟨[], ⟨hv, rfl, hh⟩, hl, hk, hs⟩, st⟩
/-- what backV says of its String, as the contracts of this text ask it: cs's low bytes, coder 0 -/
theorem codOf {cs : List Int32} {n : Nat} (hn : cs.length = n) (hb : ∀ c ∈ cs, ¬ 255 < c) : CodA cs 0 (Int32.ofNat n) ((cs.map lo8).map Value.int) := Or.inl ⟨rfl, by rw [hn], by simp [List.map_map, Function.comp_def], hb⟩
end StrChars.Road
end Jvm.Pilot.@@N@@
namespace Jvm.Pilot.@@N@@
open Jvm Jvm.ClassFile Sem Op Lib Jvm.Free Jvm.Stand Jvm.LawKit Jvm.RoadKit Bundle Jvm.Pilot.@@N@@.Jvm.D
theorem om {α : Type} {l : List α} {a : α} (i : Nat) (h : l[i]? = some a) : a ∈ l := List.mem_of_getElem? (i := i) h
/-! the goal of a walk, carried forward -/
def Goes (p : Program) (e : Env) (below : List Frame) (P : Outcome → State → Prop) (A : State) : Prop :=
  ∃ s₂ o, Steps p.tables e below A s₂ ∧ s₂.status = .running ∧ Ended s₂ below o ∧ P o s₂
theorem Goes.on {p : Program} {e : Env} {below : List Frame} {P : Outcome → State → Prop} {A B : State} (k : ∀ t, Steps p.tables e below B t → Steps p.tables e below A t) (h : Goes p e below P B) : Goes p e below P A := by
  obtain ⟨s₂, o, h1, h2⟩ := h
  exact ⟨s₂, o, k _ h1, h2⟩
theorem Goes.via {p : Program} {e : Env} {below : List Frame} {P : Outcome → State → Prop} {A B : State} (k : Goes p e below P B → Goes p e below P A) (h : Goes p e below P B) : Goes p e below P A := k h
theorem Goes.viaT {p : Program} {e : Env} {below : List Frame} {P : Outcome → State → Prop} {A : State} {Φ : State → Prop} {F : JFrame} (k : (∀ T, Φ T → Goes p e below P (T.setTop F)) → Goes p e below P A) (h : ∀ T, Φ T → Goes p e below P (T.setTop F)) : Goes p e below P A := k h
theorem Goes.leaf {p : Program} {e : Env} {below : List Frame} {P : Outcome → State → Prop} {A t : State} {o : Outcome} (h1 : Steps p.tables e below A t) (h2 : t.status = .running) (h3 : Ended t below o) (h4 : P o t) : Goes p e below P A := ⟨t, o, h1, h2, h3, h4⟩
theorem own_retI {p : Program} {l : Launch} {e : Env} {R : Room} {s : State} {m : MethodId} {args : Array Value} {below : List Frame} {meth : Method} {c : Code} {T : State} {locs : List Loc} {cells slots : Nat} (X : Stand p l e R s m args below meth c T locs cells slots) (hx : p.tables.exec = Jvm.exec) {pc : Nat} {Ls : Array Slot} {z : Int32} {rest : List Value} (hret : meth.sig.returnType = some .int) (hd : decode c.code pc = .ok (.ireturn, 1)) {fs : List Frame}
    (hl : ∀ (f : JFrame) (acts : List Action), f.method = m → f.locked = none → f.entered = [] → (doReturn e (T.setTop f) acts (some (.int z))).1 = T.setFrames fs) : Steps p.tables e below (T.setTop (mkF m pc Ls (.int z :: rest))) (T.setFrames fs) :=
  retOut X hx hret rfl (Or.inl ⟨rfl, Or.inl rfl, z, rfl⟩) hd hl
theorem own_retJ {p : Program} {l : Launch} {e : Env} {R : Room} {s : State} {m : MethodId} {args : Array Value} {below : List Frame} {meth : Method} {c : Code} {T : State} {locs : List Loc} {cells slots : Nat} (X : Stand p l e R s m args below meth c T locs cells slots) (hx : p.tables.exec = Jvm.exec) {pc : Nat} {Ls : Array Slot} {z : Int64} {rest : List Value} (hret : meth.sig.returnType = some .long) (hd : decode c.code pc = .ok (.lreturn, 1)) {fs : List Frame}
    (hl : ∀ (f : JFrame) (acts : List Action), f.method = m → f.locked = none → f.entered = [] → (doReturn e (T.setTop f) acts (some (.long z))).1 = T.setFrames fs) : Steps p.tables e below (T.setTop (mkF m pc Ls (.long z :: rest))) (T.setFrames fs) :=
  retOut X hx hret rfl (Or.inr (Or.inl ⟨rfl, rfl, z, rfl⟩)) hd hl
theorem own_retR {p : Program} {l : Launch} {e : Env} {R : Room} {s : State} {m : MethodId} {args : Array Value} {below : List Frame} {meth : Method} {c : Code} {T : State} {locs : List Loc} {cells slots : Nat} (X : Stand p l e R s m args below meth c T locs cells slots) (hx : p.tables.exec = Jvm.exec) {pc : Nat} {Ls : Array Slot} {z : Addr} {t : FieldType} {rest : List Value} (hret : meth.sig.returnType = some t) (ht : t.isReference = true) (hn : narrow t (.ref z) = .ref z) (hd : decode c.code pc = .ok (.areturn, 1)) {fs : List Frame}
    (hl : ∀ (f : JFrame) (acts : List Action), f.method = m → f.locked = none → f.entered = [] → (doReturn e (T.setTop f) acts (some (.ref z))).1 = T.setFrames fs) : Steps p.tables e below (T.setTop (mkF m pc Ls (.ref z :: rest))) (T.setFrames fs) :=
  retOut X hx hret hn (Or.inr (Or.inr (Or.inr (Or.inr ⟨rfl, ht, rfl⟩)))) hd hl
def own_St (Z : State) (GA : Int32) (GB : Value) : Prop := Sta Z Z.heap "java/lang/String" "COMPACT_STRINGS" "Z" (.int GA) ∧ ¬ (GA = (0 : Int32)) ∧ Sta Z Z.heap "jdk/internal/util/Preconditions" "SIOOBE_FORMATTER" "Ljava/util/function/BiFunction;" GB ∧ GB.isRef = true ∧
  Sta Z Z.heap "java/lang/StringUTF16" "$assertionsDisabled" "Z" (.int (1 : Int32)) ∧ Sta Z Z.heap "java/lang/StringUTF16" "HI_BYTE_SHIFT" "I" (.int (0 : Int32)) ∧ Sta Z Z.heap "java/lang/StringUTF16" "LO_BYTE_SHIFT" "I" (.int (8 : Int32))
def own_rg (x : Int32) : Prop := ¬ x < 0 ∧ ¬ (65535 : Int32) < x
def own_pick (p0 : Int32) : Int32 := (if (p0 &&& (7 : Int32)) = (0 : Int32) then (32 : Int32) else (if (p0 &&& (7 : Int32)) = (1 : Int32) then (9 : Int32) else (if (p0 &&& (7 : Int32)) = (2 : Int32) then (13 : Int32) else (if (p0 &&& (7 : Int32)) = (3 : Int32) then (10 : Int32) else (nar .char (((p0.toUInt32 >>> ((3 : Int32) &&& 31).toUInt32).toInt32).toUInt32.toUInt16.toUInt32.toInt32))))))
theorem d1_0 : decode method_2_code 0 = .ok (.iload_n 0, 1) := by decide +kernel
theorem d1_1 : decode method_2_code 1 = .ok (.bipush 7, 2) := by decide +kernel
theorem d1_3 : decode method_2_code 3 = .ok (.iand, 1) := by decide +kernel
theorem d1_4 : decode method_2_code 4 = .ok (.istore_n 1, 1) := by decide +kernel
theorem d1_5 : decode method_2_code 5 = .ok (.iload_n 1, 1) := by decide +kernel
theorem d1_6 : decode method_2_code 6 = .ok (.ifCond .ne 6, 3) := by decide +kernel
theorem d1_9 : decode method_2_code 9 = .ok (.bipush 32, 2) := by decide +kernel
theorem d1_11 : decode method_2_code 11 = .ok (.ireturn, 1) := by decide +kernel
theorem d1_12 : decode method_2_code 12 = .ok (.iload_n 1, 1) := by decide +kernel
theorem d1_13 : decode method_2_code 13 = .ok (.iconst 1, 1) := by decide +kernel
theorem d1_14 : decode method_2_code 14 = .ok (.if_icmp .ne 6, 3) := by decide +kernel
theorem d1_17 : decode method_2_code 17 = .ok (.bipush 9, 2) := by decide +kernel
theorem d1_19 : decode method_2_code 19 = .ok (.ireturn, 1) := by decide +kernel
theorem d1_20 : decode method_2_code 20 = .ok (.iload_n 1, 1) := by decide +kernel
theorem d1_21 : decode method_2_code 21 = .ok (.iconst 2, 1) := by decide +kernel
theorem d1_22 : decode method_2_code 22 = .ok (.if_icmp .ne 6, 3) := by decide +kernel
theorem d1_25 : decode method_2_code 25 = .ok (.bipush 13, 2) := by decide +kernel
theorem d1_27 : decode method_2_code 27 = .ok (.ireturn, 1) := by decide +kernel
theorem d1_28 : decode method_2_code 28 = .ok (.iload_n 1, 1) := by decide +kernel
theorem d1_29 : decode method_2_code 29 = .ok (.iconst 3, 1) := by decide +kernel
theorem d1_30 : decode method_2_code 30 = .ok (.if_icmp .ne 6, 3) := by decide +kernel
theorem d1_33 : decode method_2_code 33 = .ok (.bipush 10, 2) := by decide +kernel
theorem d1_35 : decode method_2_code 35 = .ok (.ireturn, 1) := by decide +kernel
theorem d1_36 : decode method_2_code 36 = .ok (.iload_n 0, 1) := by decide +kernel
theorem d1_37 : decode method_2_code 37 = .ok (.iconst 3, 1) := by decide +kernel
theorem d1_38 : decode method_2_code 38 = .ok (.iushr, 1) := by decide +kernel
theorem d1_39 : decode method_2_code 39 = .ok (.i2c, 1) := by decide +kernel
theorem d1_40 : decode method_2_code 40 = .ok (.ireturn, 1) := by decide +kernel
theorem pn_1 : plainName "com/example/heirloom_archive/heirloomarchive/model/TextIsWhiteSpacePinLaw" = true := by first | (simp [plainName, overriddenIn]; done) | decide +kernel
theorem ef_pk (m : MethodId) (x0 : Int32) : entryFrame m #[(.int x0)] 2 = mkF m 0 #[.val (.int x0), .unset] [] := by first | (simp [entryFrame, mkF, argsToLocals, Value.category]; done) | rfl
def Qpk (Z : State) (p0 : Int32)  (h0 : Heap) (n0 : Nat) (v : Option Value) (h : Heap) (L : List Loc) : Prop := v = some (.int (own_pick p0)) ∧ Fr n0 L ∧ h = h0
set_option maxRecDepth 65536 in
set_option maxHeartbeats 40000000 in
theorem rmpk (l : Launch) (Z : State) (a0 : Array Value) (hw : ∀ d ∈ tables_1, d.before a0 Z = true) (ws : List Jvm.Cond) (p0 : Int32)  (h0 : Heap) (n0 : Nat) (Z0 : n0 ≤ h0.size)  :
    MetFree l (⟨"com/example/heirloom_archive/heirloomarchive/model/TextIsWhiteSpacePinLaw", "pick", "(I)C"⟩ : MethodName) (head1 (Jvm.Cond.code (⟨"com/example/heirloom_archive/heirloomarchive/model/TextIsWhiteSpacePinLaw", "pick", "(I)C"⟩ : MethodName) method_2_code 2 (some .char) :: ws) ({ frames := 0, cells := 0, slots := 0, locals := 0 } : Room)) (fun aa U => aa = #[(.int p0)] ∧ Z.Warmed39 U.vm ∧ U.heap = h0) (fun _ _ _ _ _ => True) (fun _ U oo U' => ∃ vv LL, oo = .returned vv ∧ Qpk Z p0 h0 n0 vv U'.heap LL ∧ FrameEnd U oo U' LL ({ frames := 0, cells := 0, slots := 0, locals := 0 } : Room).cells ({ frames := 0, cells := 0, slots := 0, locals := 0 } : Room).slots) := by
  refine MetFree.of_bodySF (plainFor_of_name pn_1) hisR ?_
  intro p e s m args below meth c s₁ Bd hml0 hP hK
  obtain ⟨rfl, hZ, hh⟩ := hP
  have hx := Bd.exec
  have hby := Bd.bytes
  have hml : c.maxLocals = 2 := hml0
  have hown : s.vm.findClass "com/example/heirloom_archive/heirloomarchive/model/TextIsWhiteSpacePinLaw" = some m.cls := findClass_of_methodNamed Bd.named
  have hnm := (name_of_methodNamed Bd.named Bd.method).1
  have X0 : Stand p l e ({ frames := 0, cells := 0, slots := 0, locals := 0 } : Room) s m #[(.int p0)] below meth c s₁ [] 0 0 := Stand.of_body Bd
  have e0 : s₁.heap = h0 := by rw [← hh, Bd.state]; rfl
  have N0 := Fr.nil n0
  show Goes p e below _ (s₁.setTop (entryFrame m #[(.int p0)] 2))
  refine Goes.on (B := s₁.setTop (mkF m 0 #[.val (.int p0), .unset] [])) (fun t k => castTop (ef_pk m p0) k) ?_
  refine Goes.on (B := s₁.setTop (mkF m 1 #[.val (.int p0), .unset] [(.int p0)])) (fun _ k => XS.iloadN X0.here hx rfl (hb hby d1_0) rfl  k) ?_
  refine Goes.on (B := s₁.setTop (mkF m 3 #[.val (.int p0), .unset] [(.int (7 : Int32)), (.int p0)])) (fun _ k => XS.bipush X0.here hx rfl (hb hby d1_1) k) ?_
  refine Goes.on (B := s₁.setTop (mkF m 4 #[.val (.int p0), .unset] [(.int (p0 &&& (7 : Int32)))])) (fun _ k => XS.iand X0.here hx rfl (hb hby d1_3) rfl k) ?_
  refine Goes.on (B := s₁.setTop (mkF m 5 #[.val (.int p0), .val (.int (p0 &&& (7 : Int32)))] [])) (fun _ k => XS.istoreN X0.here hx rfl (hb hby d1_4) rfl (l' := #[.val (.int p0), .val (.int (p0 &&& (7 : Int32)))]) rfl k) ?_
  refine Goes.on (B := s₁.setTop (mkF m 6 #[.val (.int p0), .val (.int (p0 &&& (7 : Int32)))] [(.int (p0 &&& (7 : Int32)))])) (fun _ k => XS.iloadN X0.here hx rfl (hb hby d1_5) rfl  k) ?_
  by_cases hc6_1 : (p0 &&& (7 : Int32)) = (0 : Int32)
  · refine Goes.on (B := s₁.setTop (mkF m 9 #[.val (.int p0), .val (.int (p0 &&& (7 : Int32)))] [])) (fun _ k => XS.ifNo X0.here hx rfl (hb hby d1_6) rfl ((if0 _ _).trans (teq hc6_1).2) k) ?_
    refine Goes.on (B := s₁.setTop (mkF m 11 #[.val (.int p0), .val (.int (p0 &&& (7 : Int32)))] [(.int (32 : Int32))])) (fun _ k => XS.bipush X0.here hx rfl (hb hby d1_9) k) ?_
    obtain ⟨fs, hr, hrun, hended, hW, hsame⟩ := X0.leave (v := some (.int (32 : Int32))) (fun h => by rw [Bd.returns] at h; cases h)
    exact Goes.leaf (retN X0 hx (t := .char) Bd.returns (by simp) (hb hby d1_11) hr) hrun hended ⟨_, _, rfl, by show Qpk Z p0 h0 n0 _ s₁.heap _; rw [e0]; exact ⟨by rw [own_pick, if_pos hc6_1], N0, rfl⟩, ⟨_, rfl⟩, hW, hsame.mono (by decide) (by decide)⟩
  · refine Goes.on (B := s₁.setTop (mkF m 12 #[.val (.int p0), .val (.int (p0 &&& (7 : Int32)))] [])) (fun _ k => XS.ifYes X0.here hx rfl (pc0 := 6) (pc' := 12) rfl (hb hby d1_6) rfl ((if0 _ _).trans (feq hc6_1).2) (by decide) (by decide) k) ?_
    refine Goes.on (B := s₁.setTop (mkF m 13 #[.val (.int p0), .val (.int (p0 &&& (7 : Int32)))] [(.int (p0 &&& (7 : Int32)))])) (fun _ k => XS.iloadN X0.here hx rfl (hb hby d1_12) rfl  k) ?_
    refine Goes.on (B := s₁.setTop (mkF m 14 #[.val (.int p0), .val (.int (p0 &&& (7 : Int32)))] [(.int (1 : Int32)), (.int (p0 &&& (7 : Int32)))])) (fun _ k => XS.iconst X0.here hx rfl (hb hby d1_13) k) ?_
    by_cases hc14_2 : (p0 &&& (7 : Int32)) = (1 : Int32)
    · refine Goes.on (B := s₁.setTop (mkF m 17 #[.val (.int p0), .val (.int (p0 &&& (7 : Int32)))] [])) (fun _ k => XS.icmpNo X0.here hx rfl (hb hby d1_14) rfl (teq hc14_2).2 k) ?_
      refine Goes.on (B := s₁.setTop (mkF m 19 #[.val (.int p0), .val (.int (p0 &&& (7 : Int32)))] [(.int (9 : Int32))])) (fun _ k => XS.bipush X0.here hx rfl (hb hby d1_17) k) ?_
      obtain ⟨fs, hr, hrun, hended, hW, hsame⟩ := X0.leave (v := some (.int (9 : Int32))) (fun h => by rw [Bd.returns] at h; cases h)
      exact Goes.leaf (retN X0 hx (t := .char) Bd.returns (by simp) (hb hby d1_19) hr) hrun hended ⟨_, _, rfl, by show Qpk Z p0 h0 n0 _ s₁.heap _; rw [e0]; exact ⟨by rw [own_pick, if_neg hc6_1, if_pos hc14_2], N0, rfl⟩, ⟨_, rfl⟩, hW, hsame.mono (by decide) (by decide)⟩
    · refine Goes.on (B := s₁.setTop (mkF m 20 #[.val (.int p0), .val (.int (p0 &&& (7 : Int32)))] [])) (fun _ k => XS.icmpYes X0.here hx rfl (pc0 := 14) (pc' := 20) rfl (hb hby d1_14) rfl (feq hc14_2).2 (by decide) (by decide) k) ?_
      refine Goes.on (B := s₁.setTop (mkF m 21 #[.val (.int p0), .val (.int (p0 &&& (7 : Int32)))] [(.int (p0 &&& (7 : Int32)))])) (fun _ k => XS.iloadN X0.here hx rfl (hb hby d1_20) rfl  k) ?_
      refine Goes.on (B := s₁.setTop (mkF m 22 #[.val (.int p0), .val (.int (p0 &&& (7 : Int32)))] [(.int (2 : Int32)), (.int (p0 &&& (7 : Int32)))])) (fun _ k => XS.iconst X0.here hx rfl (hb hby d1_21) k) ?_
      by_cases hc22_3 : (p0 &&& (7 : Int32)) = (2 : Int32)
      · refine Goes.on (B := s₁.setTop (mkF m 25 #[.val (.int p0), .val (.int (p0 &&& (7 : Int32)))] [])) (fun _ k => XS.icmpNo X0.here hx rfl (hb hby d1_22) rfl (teq hc22_3).2 k) ?_
        refine Goes.on (B := s₁.setTop (mkF m 27 #[.val (.int p0), .val (.int (p0 &&& (7 : Int32)))] [(.int (13 : Int32))])) (fun _ k => XS.bipush X0.here hx rfl (hb hby d1_25) k) ?_
        obtain ⟨fs, hr, hrun, hended, hW, hsame⟩ := X0.leave (v := some (.int (13 : Int32))) (fun h => by rw [Bd.returns] at h; cases h)
        exact Goes.leaf (retN X0 hx (t := .char) Bd.returns (by simp) (hb hby d1_27) hr) hrun hended ⟨_, _, rfl, by show Qpk Z p0 h0 n0 _ s₁.heap _; rw [e0]; exact ⟨by rw [own_pick, if_neg hc6_1, if_neg hc14_2, if_pos hc22_3], N0, rfl⟩, ⟨_, rfl⟩, hW, hsame.mono (by decide) (by decide)⟩
      · refine Goes.on (B := s₁.setTop (mkF m 28 #[.val (.int p0), .val (.int (p0 &&& (7 : Int32)))] [])) (fun _ k => XS.icmpYes X0.here hx rfl (pc0 := 22) (pc' := 28) rfl (hb hby d1_22) rfl (feq hc22_3).2 (by decide) (by decide) k) ?_
        refine Goes.on (B := s₁.setTop (mkF m 29 #[.val (.int p0), .val (.int (p0 &&& (7 : Int32)))] [(.int (p0 &&& (7 : Int32)))])) (fun _ k => XS.iloadN X0.here hx rfl (hb hby d1_28) rfl  k) ?_
        refine Goes.on (B := s₁.setTop (mkF m 30 #[.val (.int p0), .val (.int (p0 &&& (7 : Int32)))] [(.int (3 : Int32)), (.int (p0 &&& (7 : Int32)))])) (fun _ k => XS.iconst X0.here hx rfl (hb hby d1_29) k) ?_
        by_cases hc30_4 : (p0 &&& (7 : Int32)) = (3 : Int32)
        · refine Goes.on (B := s₁.setTop (mkF m 33 #[.val (.int p0), .val (.int (p0 &&& (7 : Int32)))] [])) (fun _ k => XS.icmpNo X0.here hx rfl (hb hby d1_30) rfl (teq hc30_4).2 k) ?_
          refine Goes.on (B := s₁.setTop (mkF m 35 #[.val (.int p0), .val (.int (p0 &&& (7 : Int32)))] [(.int (10 : Int32))])) (fun _ k => XS.bipush X0.here hx rfl (hb hby d1_33) k) ?_
          obtain ⟨fs, hr, hrun, hended, hW, hsame⟩ := X0.leave (v := some (.int (10 : Int32))) (fun h => by rw [Bd.returns] at h; cases h)
          exact Goes.leaf (retN X0 hx (t := .char) Bd.returns (by simp) (hb hby d1_35) hr) hrun hended ⟨_, _, rfl, by show Qpk Z p0 h0 n0 _ s₁.heap _; rw [e0]; exact ⟨by rw [own_pick, if_neg hc6_1, if_neg hc14_2, if_neg hc22_3, if_pos hc30_4], N0, rfl⟩, ⟨_, rfl⟩, hW, hsame.mono (by decide) (by decide)⟩
        · refine Goes.on (B := s₁.setTop (mkF m 36 #[.val (.int p0), .val (.int (p0 &&& (7 : Int32)))] [])) (fun _ k => XS.icmpYes X0.here hx rfl (pc0 := 30) (pc' := 36) rfl (hb hby d1_30) rfl (feq hc30_4).2 (by decide) (by decide) k) ?_
          refine Goes.on (B := s₁.setTop (mkF m 37 #[.val (.int p0), .val (.int (p0 &&& (7 : Int32)))] [(.int p0)])) (fun _ k => XS.iloadN X0.here hx rfl (hb hby d1_36) rfl  k) ?_
          refine Goes.on (B := s₁.setTop (mkF m 38 #[.val (.int p0), .val (.int (p0 &&& (7 : Int32)))] [(.int (3 : Int32)), (.int p0)])) (fun _ k => XS.iconst X0.here hx rfl (hb hby d1_37) k) ?_
          refine Goes.on (B := s₁.setTop (mkF m 39 #[.val (.int p0), .val (.int (p0 &&& (7 : Int32)))] [(.int ((p0.toUInt32 >>> ((3 : Int32) &&& 31).toUInt32).toInt32))])) (fun _ k => XS.iushr X0.here hx rfl (hb hby d1_38) rfl k) ?_
          refine Goes.on (B := s₁.setTop (mkF m 40 #[.val (.int p0), .val (.int (p0 &&& (7 : Int32)))] [(.int (((p0.toUInt32 >>> ((3 : Int32) &&& 31).toUInt32).toInt32).toUInt32.toUInt16.toUInt32.toInt32))])) (fun _ k => XS.i2c X0.here hx rfl (hb hby d1_39) rfl k) ?_
          obtain ⟨fs, hr, hrun, hended, hW, hsame⟩ := X0.leave (v := some (.int (nar .char (((p0.toUInt32 >>> ((3 : Int32) &&& 31).toUInt32).toInt32).toUInt32.toUInt16.toUInt32.toInt32)))) (fun h => by rw [Bd.returns] at h; cases h)
          exact Goes.leaf (retN X0 hx (t := .char) Bd.returns (by simp) (hb hby d1_40) hr) hrun hended ⟨_, _, rfl, by show Qpk Z p0 h0 n0 _ s₁.heap _; rw [e0]; exact ⟨by rw [own_pick, if_neg hc6_1, if_neg hc14_2, if_neg hc22_3, if_neg hc30_4], N0, rfl⟩, ⟨_, rfl⟩, hW, hsame.mono (by decide) (by decide)⟩
def own_xs (p0 : Int32) : Int32 := (if p0 = (32 : Int32) then (1 : Int32) else (if p0 = (9 : Int32) then (1 : Int32) else (if p0 = (13 : Int32) then (1 : Int32) else (if p0 = (10 : Int32) then (1 : Int32) else (0 : Int32)))))
theorem d12_0 : decode method_3_code 0 = .ok (.iload_n 0, 1) := by decide +kernel
theorem d12_1 : decode method_3_code 1 = .ok (.istore_n 1, 1) := by decide +kernel
theorem d12_2 : decode method_3_code 2 = .ok (.iload_n 1, 1) := by decide +kernel
theorem d12_3 : decode method_3_code 3 = .ok (.bipush 32, 2) := by decide +kernel
theorem d12_5 : decode method_3_code 5 = .ok (.if_icmp .eq 21, 3) := by decide +kernel
theorem d12_8 : decode method_3_code 8 = .ok (.iload_n 1, 1) := by decide +kernel
theorem d12_9 : decode method_3_code 9 = .ok (.bipush 9, 2) := by decide +kernel
theorem d12_11 : decode method_3_code 11 = .ok (.if_icmp .eq 15, 3) := by decide +kernel
theorem d12_14 : decode method_3_code 14 = .ok (.iload_n 1, 1) := by decide +kernel
theorem d12_15 : decode method_3_code 15 = .ok (.bipush 13, 2) := by decide +kernel
theorem d12_17 : decode method_3_code 17 = .ok (.if_icmp .eq 9, 3) := by decide +kernel
theorem d12_20 : decode method_3_code 20 = .ok (.iload_n 1, 1) := by decide +kernel
theorem d12_21 : decode method_3_code 21 = .ok (.bipush 10, 2) := by decide +kernel
theorem d12_23 : decode method_3_code 23 = .ok (.if_icmp .ne 7, 3) := by decide +kernel
theorem d12_26 : decode method_3_code 26 = .ok (.iconst 1, 1) := by decide +kernel
theorem d12_27 : decode method_3_code 27 = .ok (.goto 4, 3) := by decide +kernel
theorem d12_30 : decode method_3_code 30 = .ok (.iconst 0, 1) := by decide +kernel
theorem d12_31 : decode method_3_code 31 = .ok (.ireturn, 1) := by decide +kernel
theorem pn_12 : plainName "com/example/heirloom_archive/heirloomarchive/model/TextIsWhiteSpacePinLaw" = true := by first | (simp [plainName, overriddenIn]; done) | decide +kernel
theorem ef_xs (m : MethodId) (x0 : Int32) : entryFrame m #[(.int x0)] 2 = mkF m 0 #[.val (.int x0), .unset] [] := by first | (simp [entryFrame, mkF, argsToLocals, Value.category]; done) | rfl
def Qxs (Z : State) (p0 : Int32)  (h0 : Heap) (n0 : Nat) (v : Option Value) (h : Heap) (L : List Loc) : Prop := v = some (.int (own_xs p0)) ∧ Fr n0 L ∧ h = h0
set_option maxRecDepth 65536 in
set_option maxHeartbeats 40000000 in
theorem rmxs (l : Launch) (Z : State) (a0 : Array Value) (hw : ∀ d ∈ tables_1, d.before a0 Z = true) (ws : List Jvm.Cond) (p0 : Int32)  (h0 : Heap) (n0 : Nat) (Z0 : n0 ≤ h0.size)  :
    MetFree l (⟨"com/example/heirloom_archive/heirloomarchive/model/TextIsWhiteSpacePinLaw", "xmlSpace", "(C)Z"⟩ : MethodName) (head1 (Jvm.Cond.code (⟨"com/example/heirloom_archive/heirloomarchive/model/TextIsWhiteSpacePinLaw", "xmlSpace", "(C)Z"⟩ : MethodName) method_3_code 2 (some .boolean) :: ws) ({ frames := 0, cells := 0, slots := 0, locals := 0 } : Room)) (fun aa U => aa = #[(.int p0)] ∧ Z.Warmed39 U.vm ∧ U.heap = h0) (fun _ _ _ _ _ => True) (fun _ U oo U' => ∃ vv LL, oo = .returned vv ∧ Qxs Z p0 h0 n0 vv U'.heap LL ∧ FrameEnd U oo U' LL ({ frames := 0, cells := 0, slots := 0, locals := 0 } : Room).cells ({ frames := 0, cells := 0, slots := 0, locals := 0 } : Room).slots) := by
  refine MetFree.of_bodySF (plainFor_of_name pn_12) hisR ?_
  intro p e s m args below meth c s₁ Bd hml0 hP hK
  obtain ⟨rfl, hZ, hh⟩ := hP
  have hx := Bd.exec
  have hby := Bd.bytes
  have hml : c.maxLocals = 2 := hml0
  have hown : s.vm.findClass "com/example/heirloom_archive/heirloomarchive/model/TextIsWhiteSpacePinLaw" = some m.cls := findClass_of_methodNamed Bd.named
  have hnm := (name_of_methodNamed Bd.named Bd.method).1
  have X0 : Stand p l e ({ frames := 0, cells := 0, slots := 0, locals := 0 } : Room) s m #[(.int p0)] below meth c s₁ [] 0 0 := Stand.of_body Bd
  have e0 : s₁.heap = h0 := by rw [← hh, Bd.state]; rfl
  have N0 := Fr.nil n0
  show Goes p e below _ (s₁.setTop (entryFrame m #[(.int p0)] 2))
  refine Goes.on (B := s₁.setTop (mkF m 0 #[.val (.int p0), .unset] [])) (fun t k => castTop (ef_xs m p0) k) ?_
  refine Goes.on (B := s₁.setTop (mkF m 1 #[.val (.int p0), .unset] [(.int p0)])) (fun _ k => XS.iloadN X0.here hx rfl (hb hby d12_0) rfl  k) ?_
  refine Goes.on (B := s₁.setTop (mkF m 2 #[.val (.int p0), .val (.int p0)] [])) (fun _ k => XS.istoreN X0.here hx rfl (hb hby d12_1) rfl (l' := #[.val (.int p0), .val (.int p0)]) rfl k) ?_
  refine Goes.on (B := s₁.setTop (mkF m 3 #[.val (.int p0), .val (.int p0)] [(.int p0)])) (fun _ k => XS.iloadN X0.here hx rfl (hb hby d12_2) rfl  k) ?_
  refine Goes.on (B := s₁.setTop (mkF m 5 #[.val (.int p0), .val (.int p0)] [(.int (32 : Int32)), (.int p0)])) (fun _ k => XS.bipush X0.here hx rfl (hb hby d12_3) k) ?_
  by_cases hc5_1 : p0 = (32 : Int32)
  · refine Goes.on (B := s₁.setTop (mkF m 26 #[.val (.int p0), .val (.int p0)] [])) (fun _ k => XS.icmpYes X0.here hx rfl (pc0 := 5) (pc' := 26) rfl (hb hby d12_5) rfl (teq hc5_1).1 (by decide) (by decide) k) ?_
    refine Goes.on (B := s₁.setTop (mkF m 27 #[.val (.int p0), .val (.int p0)] [(.int (1 : Int32))])) (fun _ k => XS.iconst X0.here hx rfl (hb hby d12_26) k) ?_
    refine Goes.on (B := s₁.setTop (mkF m 31 #[.val (.int p0), .val (.int p0)] [(.int (1 : Int32))])) (fun _ k => XS.goto X0.here hx rfl (pc0 := 27) (pc' := 31) rfl (hb hby d12_27) (by decide) (by decide) k) ?_
    obtain ⟨fs, hr, hrun, hended, hW, hsame⟩ := X0.leave (v := some (.int (1 : Int32))) (fun h => by rw [Bd.returns] at h; cases h)
    exact Goes.leaf (retN X0 hx (t := .boolean) Bd.returns (by simp) (hb hby d12_31) hr) hrun hended ⟨_, _, rfl, by show Qxs Z p0 h0 n0 _ s₁.heap _; rw [e0]; exact ⟨by rw [own_xs, if_pos hc5_1], N0, rfl⟩, ⟨_, rfl⟩, hW, hsame.mono (by decide) (by decide)⟩
  · refine Goes.on (B := s₁.setTop (mkF m 8 #[.val (.int p0), .val (.int p0)] [])) (fun _ k => XS.icmpNo X0.here hx rfl (hb hby d12_5) rfl (feq hc5_1).1 k) ?_
    refine Goes.on (B := s₁.setTop (mkF m 9 #[.val (.int p0), .val (.int p0)] [(.int p0)])) (fun _ k => XS.iloadN X0.here hx rfl (hb hby d12_8) rfl  k) ?_
    refine Goes.on (B := s₁.setTop (mkF m 11 #[.val (.int p0), .val (.int p0)] [(.int (9 : Int32)), (.int p0)])) (fun _ k => XS.bipush X0.here hx rfl (hb hby d12_9) k) ?_
    by_cases hc11_2 : p0 = (9 : Int32)
    · refine Goes.on (B := s₁.setTop (mkF m 26 #[.val (.int p0), .val (.int p0)] [])) (fun _ k => XS.icmpYes X0.here hx rfl (pc0 := 11) (pc' := 26) rfl (hb hby d12_11) rfl (teq hc11_2).1 (by decide) (by decide) k) ?_
      refine Goes.on (B := s₁.setTop (mkF m 27 #[.val (.int p0), .val (.int p0)] [(.int (1 : Int32))])) (fun _ k => XS.iconst X0.here hx rfl (hb hby d12_26) k) ?_
      refine Goes.on (B := s₁.setTop (mkF m 31 #[.val (.int p0), .val (.int p0)] [(.int (1 : Int32))])) (fun _ k => XS.goto X0.here hx rfl (pc0 := 27) (pc' := 31) rfl (hb hby d12_27) (by decide) (by decide) k) ?_
      obtain ⟨fs, hr, hrun, hended, hW, hsame⟩ := X0.leave (v := some (.int (1 : Int32))) (fun h => by rw [Bd.returns] at h; cases h)
      exact Goes.leaf (retN X0 hx (t := .boolean) Bd.returns (by simp) (hb hby d12_31) hr) hrun hended ⟨_, _, rfl, by show Qxs Z p0 h0 n0 _ s₁.heap _; rw [e0]; exact ⟨by rw [own_xs, if_neg hc5_1, if_pos hc11_2], N0, rfl⟩, ⟨_, rfl⟩, hW, hsame.mono (by decide) (by decide)⟩
    · refine Goes.on (B := s₁.setTop (mkF m 14 #[.val (.int p0), .val (.int p0)] [])) (fun _ k => XS.icmpNo X0.here hx rfl (hb hby d12_11) rfl (feq hc11_2).1 k) ?_
      refine Goes.on (B := s₁.setTop (mkF m 15 #[.val (.int p0), .val (.int p0)] [(.int p0)])) (fun _ k => XS.iloadN X0.here hx rfl (hb hby d12_14) rfl  k) ?_
      refine Goes.on (B := s₁.setTop (mkF m 17 #[.val (.int p0), .val (.int p0)] [(.int (13 : Int32)), (.int p0)])) (fun _ k => XS.bipush X0.here hx rfl (hb hby d12_15) k) ?_
      by_cases hc17_3 : p0 = (13 : Int32)
      · refine Goes.on (B := s₁.setTop (mkF m 26 #[.val (.int p0), .val (.int p0)] [])) (fun _ k => XS.icmpYes X0.here hx rfl (pc0 := 17) (pc' := 26) rfl (hb hby d12_17) rfl (teq hc17_3).1 (by decide) (by decide) k) ?_
        refine Goes.on (B := s₁.setTop (mkF m 27 #[.val (.int p0), .val (.int p0)] [(.int (1 : Int32))])) (fun _ k => XS.iconst X0.here hx rfl (hb hby d12_26) k) ?_
        refine Goes.on (B := s₁.setTop (mkF m 31 #[.val (.int p0), .val (.int p0)] [(.int (1 : Int32))])) (fun _ k => XS.goto X0.here hx rfl (pc0 := 27) (pc' := 31) rfl (hb hby d12_27) (by decide) (by decide) k) ?_
        obtain ⟨fs, hr, hrun, hended, hW, hsame⟩ := X0.leave (v := some (.int (1 : Int32))) (fun h => by rw [Bd.returns] at h; cases h)
        exact Goes.leaf (retN X0 hx (t := .boolean) Bd.returns (by simp) (hb hby d12_31) hr) hrun hended ⟨_, _, rfl, by show Qxs Z p0 h0 n0 _ s₁.heap _; rw [e0]; exact ⟨by rw [own_xs, if_neg hc5_1, if_neg hc11_2, if_pos hc17_3], N0, rfl⟩, ⟨_, rfl⟩, hW, hsame.mono (by decide) (by decide)⟩
      · refine Goes.on (B := s₁.setTop (mkF m 20 #[.val (.int p0), .val (.int p0)] [])) (fun _ k => XS.icmpNo X0.here hx rfl (hb hby d12_17) rfl (feq hc17_3).1 k) ?_
        refine Goes.on (B := s₁.setTop (mkF m 21 #[.val (.int p0), .val (.int p0)] [(.int p0)])) (fun _ k => XS.iloadN X0.here hx rfl (hb hby d12_20) rfl  k) ?_
        refine Goes.on (B := s₁.setTop (mkF m 23 #[.val (.int p0), .val (.int p0)] [(.int (10 : Int32)), (.int p0)])) (fun _ k => XS.bipush X0.here hx rfl (hb hby d12_21) k) ?_
        by_cases hc23_4 : p0 = (10 : Int32)
        · refine Goes.on (B := s₁.setTop (mkF m 26 #[.val (.int p0), .val (.int p0)] [])) (fun _ k => XS.icmpNo X0.here hx rfl (hb hby d12_23) rfl (teq hc23_4).2 k) ?_
          refine Goes.on (B := s₁.setTop (mkF m 27 #[.val (.int p0), .val (.int p0)] [(.int (1 : Int32))])) (fun _ k => XS.iconst X0.here hx rfl (hb hby d12_26) k) ?_
          refine Goes.on (B := s₁.setTop (mkF m 31 #[.val (.int p0), .val (.int p0)] [(.int (1 : Int32))])) (fun _ k => XS.goto X0.here hx rfl (pc0 := 27) (pc' := 31) rfl (hb hby d12_27) (by decide) (by decide) k) ?_
          obtain ⟨fs, hr, hrun, hended, hW, hsame⟩ := X0.leave (v := some (.int (1 : Int32))) (fun h => by rw [Bd.returns] at h; cases h)
          exact Goes.leaf (retN X0 hx (t := .boolean) Bd.returns (by simp) (hb hby d12_31) hr) hrun hended ⟨_, _, rfl, by show Qxs Z p0 h0 n0 _ s₁.heap _; rw [e0]; exact ⟨by rw [own_xs, if_neg hc5_1, if_neg hc11_2, if_neg hc17_3, if_pos hc23_4], N0, rfl⟩, ⟨_, rfl⟩, hW, hsame.mono (by decide) (by decide)⟩
        · refine Goes.on (B := s₁.setTop (mkF m 30 #[.val (.int p0), .val (.int p0)] [])) (fun _ k => XS.icmpYes X0.here hx rfl (pc0 := 23) (pc' := 30) rfl (hb hby d12_23) rfl (feq hc23_4).2 (by decide) (by decide) k) ?_
          refine Goes.on (B := s₁.setTop (mkF m 31 #[.val (.int p0), .val (.int p0)] [(.int (0 : Int32))])) (fun _ k => XS.iconst X0.here hx rfl (hb hby d12_30) k) ?_
          obtain ⟨fs, hr, hrun, hended, hW, hsame⟩ := X0.leave (v := some (.int (0 : Int32))) (fun h => by rw [Bd.returns] at h; cases h)
          exact Goes.leaf (retN X0 hx (t := .boolean) Bd.returns (by simp) (hb hby d12_31) hr) hrun hended ⟨_, _, rfl, by show Qxs Z p0 h0 n0 _ s₁.heap _; rw [e0]; exact ⟨by rw [own_xs, if_neg hc5_1, if_neg hc11_2, if_neg hc17_3, if_neg hc23_4], N0, rfl⟩, ⟨_, rfl⟩, hW, hsame.mono (by decide) (by decide)⟩
def own_ws (p0 : Int32) : Int32 := (if p0 = (32 : Int32) then (1 : Int32) else (if p0 = (9 : Int32) then (1 : Int32) else (if p0 = (13 : Int32) then (1 : Int32) else (if p0 = (10 : Int32) then (1 : Int32) else (0 : Int32)))))
theorem d18_0 : decode prog_97_method_10_code 0 = .ok (.iload_n 0, 1) := by decide +kernel
theorem d18_1 : decode prog_97_method_10_code 1 = .ok (.bipush 32, 2) := by decide +kernel
theorem d18_3 : decode prog_97_method_10_code 3 = .ok (.if_icmp .eq 21, 3) := by decide +kernel
theorem d18_6 : decode prog_97_method_10_code 6 = .ok (.iload_n 0, 1) := by decide +kernel
theorem d18_7 : decode prog_97_method_10_code 7 = .ok (.bipush 9, 2) := by decide +kernel
theorem d18_9 : decode prog_97_method_10_code 9 = .ok (.if_icmp .eq 15, 3) := by decide +kernel
theorem d18_12 : decode prog_97_method_10_code 12 = .ok (.iload_n 0, 1) := by decide +kernel
theorem d18_13 : decode prog_97_method_10_code 13 = .ok (.bipush 13, 2) := by decide +kernel
theorem d18_15 : decode prog_97_method_10_code 15 = .ok (.if_icmp .eq 9, 3) := by decide +kernel
theorem d18_18 : decode prog_97_method_10_code 18 = .ok (.iload_n 0, 1) := by decide +kernel
theorem d18_19 : decode prog_97_method_10_code 19 = .ok (.bipush 10, 2) := by decide +kernel
theorem d18_21 : decode prog_97_method_10_code 21 = .ok (.if_icmp .ne 7, 3) := by decide +kernel
theorem d18_24 : decode prog_97_method_10_code 24 = .ok (.iconst 1, 1) := by decide +kernel
theorem d18_25 : decode prog_97_method_10_code 25 = .ok (.goto 4, 3) := by decide +kernel
theorem d18_28 : decode prog_97_method_10_code 28 = .ok (.iconst 0, 1) := by decide +kernel
theorem d18_29 : decode prog_97_method_10_code 29 = .ok (.ireturn, 1) := by decide +kernel
theorem pn_18 : plainName "com/example/heirloom_archive/heirloomarchive/model/Text" = true := by first | (simp [plainName, overriddenIn]; done) | decide +kernel
theorem ef_ws (m : MethodId) (x0 : Int32) : entryFrame m #[(.int x0)] 1 = mkF m 0 #[.val (.int x0)] [] := by first | (simp [entryFrame, mkF, argsToLocals, Value.category]; done) | rfl
def Qws (Z : State) (p0 : Int32)  (h0 : Heap) (n0 : Nat) (v : Option Value) (h : Heap) (L : List Loc) : Prop := v = some (.int (own_ws p0)) ∧ Fr n0 L ∧ h = h0
set_option maxRecDepth 65536 in
set_option maxHeartbeats 40000000 in
theorem rmws (l : Launch) (Z : State) (a0 : Array Value) (hw : ∀ d ∈ tables_1, d.before a0 Z = true) (ws : List Jvm.Cond) (p0 : Int32)  (h0 : Heap) (n0 : Nat) (Z0 : n0 ≤ h0.size)  :
    MetFree l (⟨"com/example/heirloom_archive/heirloomarchive/model/Text", "isWhiteSpace", "(C)Z"⟩ : MethodName) (head1 (Jvm.Cond.code (⟨"com/example/heirloom_archive/heirloomarchive/model/Text", "isWhiteSpace", "(C)Z"⟩ : MethodName) prog_97_method_10_code 1 (some .boolean) :: ws) ({ frames := 0, cells := 0, slots := 0, locals := 0 } : Room)) (fun aa U => aa = #[(.int p0)] ∧ Z.Warmed39 U.vm ∧ U.heap = h0) (fun _ _ _ _ _ => True) (fun _ U oo U' => ∃ vv LL, oo = .returned vv ∧ Qws Z p0 h0 n0 vv U'.heap LL ∧ FrameEnd U oo U' LL ({ frames := 0, cells := 0, slots := 0, locals := 0 } : Room).cells ({ frames := 0, cells := 0, slots := 0, locals := 0 } : Room).slots) := by
  refine MetFree.of_bodySF (plainFor_of_name pn_18) hisR ?_
  intro p e s m args below meth c s₁ Bd hml0 hP hK
  obtain ⟨rfl, hZ, hh⟩ := hP
  have hx := Bd.exec
  have hby := Bd.bytes
  have hml : c.maxLocals = 1 := hml0
  have hown : s.vm.findClass "com/example/heirloom_archive/heirloomarchive/model/Text" = some m.cls := findClass_of_methodNamed Bd.named
  have hnm := (name_of_methodNamed Bd.named Bd.method).1
  have X0 : Stand p l e ({ frames := 0, cells := 0, slots := 0, locals := 0 } : Room) s m #[(.int p0)] below meth c s₁ [] 0 0 := Stand.of_body Bd
  have e0 : s₁.heap = h0 := by rw [← hh, Bd.state]; rfl
  have N0 := Fr.nil n0
  show Goes p e below _ (s₁.setTop (entryFrame m #[(.int p0)] 1))
  refine Goes.on (B := s₁.setTop (mkF m 0 #[.val (.int p0)] [])) (fun t k => castTop (ef_ws m p0) k) ?_
  refine Goes.on (B := s₁.setTop (mkF m 1 #[.val (.int p0)] [(.int p0)])) (fun _ k => XS.iloadN X0.here hx rfl (hb hby d18_0) rfl  k) ?_
  refine Goes.on (B := s₁.setTop (mkF m 3 #[.val (.int p0)] [(.int (32 : Int32)), (.int p0)])) (fun _ k => XS.bipush X0.here hx rfl (hb hby d18_1) k) ?_
  by_cases hc3_1 : p0 = (32 : Int32)
  · refine Goes.on (B := s₁.setTop (mkF m 24 #[.val (.int p0)] [])) (fun _ k => XS.icmpYes X0.here hx rfl (pc0 := 3) (pc' := 24) rfl (hb hby d18_3) rfl (teq hc3_1).1 (by decide) (by decide) k) ?_
    refine Goes.on (B := s₁.setTop (mkF m 25 #[.val (.int p0)] [(.int (1 : Int32))])) (fun _ k => XS.iconst X0.here hx rfl (hb hby d18_24) k) ?_
    refine Goes.on (B := s₁.setTop (mkF m 29 #[.val (.int p0)] [(.int (1 : Int32))])) (fun _ k => XS.goto X0.here hx rfl (pc0 := 25) (pc' := 29) rfl (hb hby d18_25) (by decide) (by decide) k) ?_
    obtain ⟨fs, hr, hrun, hended, hW, hsame⟩ := X0.leave (v := some (.int (1 : Int32))) (fun h => by rw [Bd.returns] at h; cases h)
    exact Goes.leaf (retN X0 hx (t := .boolean) Bd.returns (by simp) (hb hby d18_29) hr) hrun hended ⟨_, _, rfl, by show Qws Z p0 h0 n0 _ s₁.heap _; rw [e0]; exact ⟨by rw [own_ws, if_pos hc3_1], N0, rfl⟩, ⟨_, rfl⟩, hW, hsame.mono (by decide) (by decide)⟩
  · refine Goes.on (B := s₁.setTop (mkF m 6 #[.val (.int p0)] [])) (fun _ k => XS.icmpNo X0.here hx rfl (hb hby d18_3) rfl (feq hc3_1).1 k) ?_
    refine Goes.on (B := s₁.setTop (mkF m 7 #[.val (.int p0)] [(.int p0)])) (fun _ k => XS.iloadN X0.here hx rfl (hb hby d18_6) rfl  k) ?_
    refine Goes.on (B := s₁.setTop (mkF m 9 #[.val (.int p0)] [(.int (9 : Int32)), (.int p0)])) (fun _ k => XS.bipush X0.here hx rfl (hb hby d18_7) k) ?_
    by_cases hc9_2 : p0 = (9 : Int32)
    · refine Goes.on (B := s₁.setTop (mkF m 24 #[.val (.int p0)] [])) (fun _ k => XS.icmpYes X0.here hx rfl (pc0 := 9) (pc' := 24) rfl (hb hby d18_9) rfl (teq hc9_2).1 (by decide) (by decide) k) ?_
      refine Goes.on (B := s₁.setTop (mkF m 25 #[.val (.int p0)] [(.int (1 : Int32))])) (fun _ k => XS.iconst X0.here hx rfl (hb hby d18_24) k) ?_
      refine Goes.on (B := s₁.setTop (mkF m 29 #[.val (.int p0)] [(.int (1 : Int32))])) (fun _ k => XS.goto X0.here hx rfl (pc0 := 25) (pc' := 29) rfl (hb hby d18_25) (by decide) (by decide) k) ?_
      obtain ⟨fs, hr, hrun, hended, hW, hsame⟩ := X0.leave (v := some (.int (1 : Int32))) (fun h => by rw [Bd.returns] at h; cases h)
      exact Goes.leaf (retN X0 hx (t := .boolean) Bd.returns (by simp) (hb hby d18_29) hr) hrun hended ⟨_, _, rfl, by show Qws Z p0 h0 n0 _ s₁.heap _; rw [e0]; exact ⟨by rw [own_ws, if_neg hc3_1, if_pos hc9_2], N0, rfl⟩, ⟨_, rfl⟩, hW, hsame.mono (by decide) (by decide)⟩
    · refine Goes.on (B := s₁.setTop (mkF m 12 #[.val (.int p0)] [])) (fun _ k => XS.icmpNo X0.here hx rfl (hb hby d18_9) rfl (feq hc9_2).1 k) ?_
      refine Goes.on (B := s₁.setTop (mkF m 13 #[.val (.int p0)] [(.int p0)])) (fun _ k => XS.iloadN X0.here hx rfl (hb hby d18_12) rfl  k) ?_
      refine Goes.on (B := s₁.setTop (mkF m 15 #[.val (.int p0)] [(.int (13 : Int32)), (.int p0)])) (fun _ k => XS.bipush X0.here hx rfl (hb hby d18_13) k) ?_
      by_cases hc15_3 : p0 = (13 : Int32)
      · refine Goes.on (B := s₁.setTop (mkF m 24 #[.val (.int p0)] [])) (fun _ k => XS.icmpYes X0.here hx rfl (pc0 := 15) (pc' := 24) rfl (hb hby d18_15) rfl (teq hc15_3).1 (by decide) (by decide) k) ?_
        refine Goes.on (B := s₁.setTop (mkF m 25 #[.val (.int p0)] [(.int (1 : Int32))])) (fun _ k => XS.iconst X0.here hx rfl (hb hby d18_24) k) ?_
        refine Goes.on (B := s₁.setTop (mkF m 29 #[.val (.int p0)] [(.int (1 : Int32))])) (fun _ k => XS.goto X0.here hx rfl (pc0 := 25) (pc' := 29) rfl (hb hby d18_25) (by decide) (by decide) k) ?_
        obtain ⟨fs, hr, hrun, hended, hW, hsame⟩ := X0.leave (v := some (.int (1 : Int32))) (fun h => by rw [Bd.returns] at h; cases h)
        exact Goes.leaf (retN X0 hx (t := .boolean) Bd.returns (by simp) (hb hby d18_29) hr) hrun hended ⟨_, _, rfl, by show Qws Z p0 h0 n0 _ s₁.heap _; rw [e0]; exact ⟨by rw [own_ws, if_neg hc3_1, if_neg hc9_2, if_pos hc15_3], N0, rfl⟩, ⟨_, rfl⟩, hW, hsame.mono (by decide) (by decide)⟩
      · refine Goes.on (B := s₁.setTop (mkF m 18 #[.val (.int p0)] [])) (fun _ k => XS.icmpNo X0.here hx rfl (hb hby d18_15) rfl (feq hc15_3).1 k) ?_
        refine Goes.on (B := s₁.setTop (mkF m 19 #[.val (.int p0)] [(.int p0)])) (fun _ k => XS.iloadN X0.here hx rfl (hb hby d18_18) rfl  k) ?_
        refine Goes.on (B := s₁.setTop (mkF m 21 #[.val (.int p0)] [(.int (10 : Int32)), (.int p0)])) (fun _ k => XS.bipush X0.here hx rfl (hb hby d18_19) k) ?_
        by_cases hc21_4 : p0 = (10 : Int32)
        · refine Goes.on (B := s₁.setTop (mkF m 24 #[.val (.int p0)] [])) (fun _ k => XS.icmpNo X0.here hx rfl (hb hby d18_21) rfl (teq hc21_4).2 k) ?_
          refine Goes.on (B := s₁.setTop (mkF m 25 #[.val (.int p0)] [(.int (1 : Int32))])) (fun _ k => XS.iconst X0.here hx rfl (hb hby d18_24) k) ?_
          refine Goes.on (B := s₁.setTop (mkF m 29 #[.val (.int p0)] [(.int (1 : Int32))])) (fun _ k => XS.goto X0.here hx rfl (pc0 := 25) (pc' := 29) rfl (hb hby d18_25) (by decide) (by decide) k) ?_
          obtain ⟨fs, hr, hrun, hended, hW, hsame⟩ := X0.leave (v := some (.int (1 : Int32))) (fun h => by rw [Bd.returns] at h; cases h)
          exact Goes.leaf (retN X0 hx (t := .boolean) Bd.returns (by simp) (hb hby d18_29) hr) hrun hended ⟨_, _, rfl, by show Qws Z p0 h0 n0 _ s₁.heap _; rw [e0]; exact ⟨by rw [own_ws, if_neg hc3_1, if_neg hc9_2, if_neg hc15_3, if_pos hc21_4], N0, rfl⟩, ⟨_, rfl⟩, hW, hsame.mono (by decide) (by decide)⟩
        · refine Goes.on (B := s₁.setTop (mkF m 28 #[.val (.int p0)] [])) (fun _ k => XS.icmpYes X0.here hx rfl (pc0 := 21) (pc' := 28) rfl (hb hby d18_21) rfl (feq hc21_4).2 (by decide) (by decide) k) ?_
          refine Goes.on (B := s₁.setTop (mkF m 29 #[.val (.int p0)] [(.int (0 : Int32))])) (fun _ k => XS.iconst X0.here hx rfl (hb hby d18_28) k) ?_
          obtain ⟨fs, hr, hrun, hended, hW, hsame⟩ := X0.leave (v := some (.int (0 : Int32))) (fun h => by rw [Bd.returns] at h; cases h)
          exact Goes.leaf (retN X0 hx (t := .boolean) Bd.returns (by simp) (hb hby d18_29) hr) hrun hended ⟨_, _, rfl, by show Qws Z p0 h0 n0 _ s₁.heap _; rw [e0]; exact ⟨by rw [own_ws, if_neg hc3_1, if_neg hc9_2, if_neg hc15_3, if_neg hc21_4], N0, rfl⟩, ⟨_, rfl⟩, hW, hsame.mono (by decide) (by decide)⟩
theorem own_xw (x : Int32) : own_xs x = own_ws x := by unfold own_xs own_ws; rfl
theorem own_narc_i (x : Int32) : own_rg (nar .char x) := by
  have h1 : (nar .char x).toInt = (x.toUInt32.toUInt16.toNat : Int) := by
    show (x.toUInt32.toUInt16.toUInt32.toInt32).toInt = _
    rw [← Int32.toInt_toBitVec, BitVec.toInt_eq_toNat_cond]
    have e : (x.toUInt32.toUInt16.toUInt32.toInt32).toBitVec.toNat = x.toUInt32.toUInt16.toNat := by
      show x.toUInt32.toUInt16.toUInt32.toNat = _
      simp
    have := x.toUInt32.toUInt16.toNat_lt
    rw [e, if_pos (by omega)]
  have := x.toUInt32.toUInt16.toNat_lt
  have a : (0 : Int32).toInt = 0 := rfl
  have b : (65535 : Int32).toInt = 65535 := rfl
  unfold own_rg
  rw [Int32.lt_iff_toInt_lt, Int32.lt_iff_toInt_lt, h1, a, b]
  omega
theorem own_pick_rg (x : Int32) : own_rg (own_pick x) := by
  unfold own_pick
  repeat' split
  all_goals first | exact ⟨by decide, by decide⟩ | exact own_narc_i _
theorem own_of {x : Int32} (h : own_rg x) : ∃ k : Nat, k < 65536 ∧ x = Int32.ofNat k := by
  obtain ⟨h1, h2⟩ := h
  have a : (0 : Int32).toInt = 0 := rfl
  have b : (65535 : Int32).toInt = 65535 := rfl
  rw [Int32.lt_iff_toInt_lt, a] at h1
  rw [Int32.lt_iff_toInt_lt, b] at h2
  refine ⟨x.toInt.toNat, by omega, ?_⟩
  apply Int32.toInt_inj.mp
  rw [Int32.toInt_ofNat_of_lt (by omega)]
  omega
theorem own_narc {x : Int32} (h : own_rg x) : nar .char x = x := by
  obtain ⟨k, hk, rfl⟩ := own_of h
  show (Int32.ofNat k).toUInt32.toUInt16.toUInt32.toInt32 = Int32.ofNat k
  apply Int32.toBitVec_inj.mp
  show ((BitVec.ofNat 32 k).setWidth 16).setWidth 32 = BitVec.ofNat 32 k
  apply BitVec.eq_of_toNat_eq
  simp only [BitVec.toNat_setWidth, BitVec.toNat_ofNat]
  omega
abbrev bA (x : Int32) : Int32 := nar .byte ((x >>> ((0 : Int32) &&& 31)).toInt8.toInt32)
abbrev bB (x : Int32) : Int32 := nar .byte ((x >>> ((8 : Int32) &&& 31)).toInt8.toInt32)
theorem own_by : ∀ j : Fin 256, (nar .byte ((Int8.ofNat j.val).toInt32)) &&& (255 : Int32) = Int32.ofNat j.val := by decide +kernel
theorem own_bA {k : Nat} (hk : k < 65536) : (bA (Int32.ofNat k)) &&& (255 : Int32) = Int32.ofNat (k % 256) := by
  have e : ((Int32.ofNat k) >>> ((0 : Int32) &&& 31)).toInt8 = Int8.ofNat (k % 256) := by
    apply Int8.toBitVec_inj.mp
    show (BitVec.signExtend 8 (BitVec.sshiftRight (BitVec.ofNat 32 k) 0)) = BitVec.ofNat 8 (k % 256)
    apply BitVec.eq_of_toNat_eq
    rw [BitVec.signExtend_eq_setWidth_of_le _ (by decide), BitVec.toNat_setWidth, BitVec.sshiftRight_zero, BitVec.toNat_ofNat, BitVec.toNat_ofNat]
    omega
  unfold bA
  rw [e]
  exact own_by ⟨k % 256, by omega⟩
theorem own_bB {k : Nat} (hk : k < 65536) : (bB (Int32.ofNat k)) &&& (255 : Int32) = Int32.ofNat (k / 256) := by
  have e : ((Int32.ofNat k) >>> ((8 : Int32) &&& 31)).toInt8 = Int8.ofNat (k / 256) := by
    apply Int8.toBitVec_inj.mp
    show (BitVec.signExtend 8 (BitVec.sshiftRight (BitVec.ofNat 32 k) 8)) = BitVec.ofNat 8 (k / 256)
    have hm : (BitVec.ofNat 32 k).msb = false := by
      rw [BitVec.msb_eq_decide, BitVec.toNat_ofNat]
      exact decide_eq_false (by omega)
    apply BitVec.eq_of_toNat_eq
    rw [BitVec.signExtend_eq_setWidth_of_le _ (by decide), BitVec.toNat_setWidth, BitVec.sshiftRight_eq_of_msb_false hm, BitVec.toNat_ushiftRight, BitVec.toNat_ofNat, BitVec.toNat_ofNat, Nat.shiftRight_eq_div_pow]
    omega
  unfold bB
  rw [e]
  exact own_by ⟨k / 256, by omega⟩
theorem own_or {k : Nat} (hk : k < 65536) : ((Int32.ofNat (k % 256) <<< ((0 : Int32) &&& 31)) ||| (Int32.ofNat (k / 256) <<< ((8 : Int32) &&& 31))) = Int32.ofNat k := by
  apply Int32.toBitVec_inj.mp
  show ((BitVec.ofNat 32 (k % 256)) <<< (0 : Nat)) ||| ((BitVec.ofNat 32 (k / 256)) <<< (8 : Nat)) = BitVec.ofNat 32 k
  apply BitVec.eq_of_toNat_eq
  rw [BitVec.toNat_or, BitVec.toNat_shiftLeft, BitVec.toNat_shiftLeft, BitVec.toNat_ofNat, BitVec.toNat_ofNat, BitVec.toNat_ofNat, Nat.or_comm, Nat.shiftLeft_zero, Nat.mod_eq_of_lt (a := k / 256) (by omega), Nat.mod_eq_of_lt (a := k % 256) (by omega), Nat.mod_eq_of_lt (a := k % 256) (by omega), Nat.mod_eq_of_lt (a := (k / 256) <<< 8) (by rw [Nat.shiftLeft_eq]; omega), ← Nat.shiftLeft_add_eq_or_of_lt (show k % 256 < 2 ^ 8 by omega), Nat.shiftLeft_eq]
  omega
theorem own_gc {x : Int32} (h : own_rg x) : (nar .char ((((((bA x) &&& (255 : Int32)) <<< ((0 : Int32) &&& 31)) ||| (((bB x) &&& (255 : Int32)) <<< ((8 : Int32) &&& 31))).toUInt32.toUInt16.toUInt32.toInt32))) = x := by
  obtain ⟨k, hk, e⟩ := own_of h
  have c : x.toUInt32.toUInt16.toUInt32.toInt32 = x := own_narc h
  have o : ((((bA x) &&& (255 : Int32)) <<< ((0 : Int32) &&& 31)) ||| (((bB x) &&& (255 : Int32)) <<< ((8 : Int32) &&& 31))) = x := by rw [e, own_bA hk, own_bB hk, own_or hk]
  rw [o, c]; exact own_narc h
theorem d17_0 : decode jdk_41_method_11_code 0 = .ok (.iload_n 0, 1) := by decide +kernel
theorem d17_1 : decode jdk_41_method_11_code 1 = .ok (.ifCond .lt 8, 3) := by decide +kernel
theorem d17_4 : decode jdk_41_method_11_code 4 = .ok (.iload_n 0, 1) := by decide +kernel
theorem d17_5 : decode jdk_41_method_11_code 5 = .ok (.iload_n 1, 1) := by decide +kernel
theorem d17_6 : decode jdk_41_method_11_code 6 = .ok (.if_icmp .lt 10, 3) := by decide +kernel
theorem d17_16 : decode jdk_41_method_11_code 16 = .ok (.iload_n 0, 1) := by decide +kernel
theorem d17_17 : decode jdk_41_method_11_code 17 = .ok (.ireturn, 1) := by decide +kernel
theorem pn_17 : plainName "jdk/internal/util/Preconditions" = true := by first | (simp [plainName, overriddenIn]; done) | decide +kernel
theorem ef_cn (m : MethodId) (x0 : Int32) (x1 : Int32) : entryFrame m #[(.int x0), (.int x1), .null] 3 = mkF m 0 #[.val (.int x0), .val (.int x1), .val .null] [] := by first | (simp [entryFrame, mkF, argsToLocals, Value.category]; done) | rfl
def Qcn (Z : State) (p0 : Int32) (p1 : Int32)  (h0 : Heap) (n0 : Nat) (v : Option Value) (h : Heap) (L : List Loc) : Prop := v = some (.int p0) ∧ Fr n0 L ∧ h = h0
set_option maxRecDepth 65536 in
set_option maxHeartbeats 40000000 in
theorem rmcn (l : Launch) (Z : State) (a0 : Array Value) (hw : ∀ d ∈ tables_1, d.before a0 Z = true) (ws : List Jvm.Cond) (p0 : Int32) (p1 : Int32)  (h0 : Heap) (n0 : Nat) (Z0 : n0 ≤ h0.size) (q1 : ¬ p0 < (0 : Int32)) (q2 : p0 < p1) :
    MetFree l (⟨"jdk/internal/util/Preconditions", "checkIndex", "(IILjava/util/function/BiFunction;)I"⟩ : MethodName) (head1 (Jvm.Cond.code (⟨"jdk/internal/util/Preconditions", "checkIndex", "(IILjava/util/function/BiFunction;)I"⟩ : MethodName) jdk_41_method_11_code 3 (some .int) :: ws) ({ frames := 0, cells := 0, slots := 0, locals := 0 } : Room)) (fun aa U => aa = #[(.int p0), (.int p1), .null] ∧ Z.Warmed39 U.vm ∧ U.heap = h0) (fun _ _ _ _ _ => True) (fun _ U oo U' => ∃ vv LL, oo = .returned vv ∧ Qcn Z p0 p1 h0 n0 vv U'.heap LL ∧ FrameEnd U oo U' LL ({ frames := 0, cells := 0, slots := 0, locals := 0 } : Room).cells ({ frames := 0, cells := 0, slots := 0, locals := 0 } : Room).slots) := by
  refine MetFree.of_bodySF (plainFor_of_name pn_17) hisR ?_
  intro p e s m args below meth c s₁ Bd hml0 hP hK
  obtain ⟨rfl, hZ, hh⟩ := hP
  have hx := Bd.exec
  have hby := Bd.bytes
  have hml : c.maxLocals = 3 := hml0
  have hown : s.vm.findClass "jdk/internal/util/Preconditions" = some m.cls := findClass_of_methodNamed Bd.named
  have hnm := (name_of_methodNamed Bd.named Bd.method).1
  have X0 : Stand p l e ({ frames := 0, cells := 0, slots := 0, locals := 0 } : Room) s m #[(.int p0), (.int p1), .null] below meth c s₁ [] 0 0 := Stand.of_body Bd
  have e0 : s₁.heap = h0 := by rw [← hh, Bd.state]; rfl
  have N0 := Fr.nil n0
  show Goes p e below _ (s₁.setTop (entryFrame m #[(.int p0), (.int p1), .null] 3))
  refine Goes.on (B := s₁.setTop (mkF m 0 #[.val (.int p0), .val (.int p1), .val .null] [])) (fun t k => castTop (ef_cn m p0 p1) k) ?_
  refine Goes.on (B := s₁.setTop (mkF m 17 #[.val (.int p0), .val (.int p1), .val .null] [(.int p0)])) (fun _ k => XS.iloadN X0.here hx rfl (hb hby d17_0) rfl  (XS.ifNo X0.here hx rfl (hb hby d17_1) rfl ((if0 _ _).trans (flt q1).1) (XS.iloadN X0.here hx rfl (hb hby d17_4) rfl  (XS.iloadN X0.here hx rfl (hb hby d17_5) rfl  (XS.icmpYes X0.here hx rfl (pc0 := 6) (pc' := 16) rfl (hb hby d17_6) rfl (tlt q2).1 (by decide) (by decide) (XS.iloadN X0.here hx rfl (hb hby d17_16) rfl  k)))))) ?_
  obtain ⟨fs, hr, hrun, hended, hW, hsame⟩ := X0.leave (v := some (.int p0)) (fun h => by rw [Bd.returns] at h; cases h)
  exact Goes.leaf (own_retI X0 hx Bd.returns (hb hby d17_17) hr) hrun hended ⟨_, _, rfl, by show Qcn Z p0 p1 h0 n0 _ s₁.heap _; rw [e0]; exact ⟨rfl, N0, rfl⟩, ⟨_, rfl⟩, hW, hsame.mono (by decide) (by decide)⟩
theorem ef_cr (m : MethodId) (x0 : Int32) (x1 : Int32) (x2 : Addr) : entryFrame m #[(.int x0), (.int x1), (.ref x2)] 3 = mkF m 0 #[.val (.int x0), .val (.int x1), .val (.ref x2)] [] := by first | (simp [entryFrame, mkF, argsToLocals, Value.category]; done) | rfl
def Qcr (Z : State) (p0 : Int32) (p1 : Int32) (z : Addr)  (h0 : Heap) (n0 : Nat) (v : Option Value) (h : Heap) (L : List Loc) : Prop := v = some (.int p0) ∧ Fr n0 L ∧ h = h0
set_option maxRecDepth 65536 in
set_option maxHeartbeats 40000000 in
theorem rmcr (l : Launch) (Z : State) (a0 : Array Value) (hw : ∀ d ∈ tables_1, d.before a0 Z = true) (ws : List Jvm.Cond) (p0 : Int32) (p1 : Int32) (z : Addr)  (h0 : Heap) (n0 : Nat) (Z0 : n0 ≤ h0.size) (q1 : ¬ p0 < (0 : Int32)) (q2 : p0 < p1) :
    MetFree l (⟨"jdk/internal/util/Preconditions", "checkIndex", "(IILjava/util/function/BiFunction;)I"⟩ : MethodName) (head1 (Jvm.Cond.code (⟨"jdk/internal/util/Preconditions", "checkIndex", "(IILjava/util/function/BiFunction;)I"⟩ : MethodName) jdk_41_method_11_code 3 (some .int) :: ws) ({ frames := 0, cells := 0, slots := 0, locals := 0 } : Room)) (fun aa U => aa = #[(.int p0), (.int p1), (.ref z)] ∧ Z.Warmed39 U.vm ∧ U.heap = h0) (fun _ _ _ _ _ => True) (fun _ U oo U' => ∃ vv LL, oo = .returned vv ∧ Qcr Z p0 p1 z h0 n0 vv U'.heap LL ∧ FrameEnd U oo U' LL ({ frames := 0, cells := 0, slots := 0, locals := 0 } : Room).cells ({ frames := 0, cells := 0, slots := 0, locals := 0 } : Room).slots) := by
  refine MetFree.of_bodySF (plainFor_of_name pn_17) hisR ?_
  intro p e s m args below meth c s₁ Bd hml0 hP hK
  obtain ⟨rfl, hZ, hh⟩ := hP
  have hx := Bd.exec
  have hby := Bd.bytes
  have hml : c.maxLocals = 3 := hml0
  have hown : s.vm.findClass "jdk/internal/util/Preconditions" = some m.cls := findClass_of_methodNamed Bd.named
  have hnm := (name_of_methodNamed Bd.named Bd.method).1
  have X0 : Stand p l e ({ frames := 0, cells := 0, slots := 0, locals := 0 } : Room) s m #[(.int p0), (.int p1), (.ref z)] below meth c s₁ [] 0 0 := Stand.of_body Bd
  have e0 : s₁.heap = h0 := by rw [← hh, Bd.state]; rfl
  have N0 := Fr.nil n0
  show Goes p e below _ (s₁.setTop (entryFrame m #[(.int p0), (.int p1), (.ref z)] 3))
  refine Goes.on (B := s₁.setTop (mkF m 0 #[.val (.int p0), .val (.int p1), .val (.ref z)] [])) (fun t k => castTop (ef_cr m p0 p1 z) k) ?_
  refine Goes.on (B := s₁.setTop (mkF m 17 #[.val (.int p0), .val (.int p1), .val (.ref z)] [(.int p0)])) (fun _ k => XS.iloadN X0.here hx rfl (hb hby d17_0) rfl  (XS.ifNo X0.here hx rfl (hb hby d17_1) rfl ((if0 _ _).trans (flt q1).1) (XS.iloadN X0.here hx rfl (hb hby d17_4) rfl  (XS.iloadN X0.here hx rfl (hb hby d17_5) rfl  (XS.icmpYes X0.here hx rfl (pc0 := 6) (pc' := 16) rfl (hb hby d17_6) rfl (tlt q2).1 (by decide) (by decide) (XS.iloadN X0.here hx rfl (hb hby d17_16) rfl  k)))))) ?_
  obtain ⟨fs, hr, hrun, hended, hW, hsame⟩ := X0.leave (v := some (.int p0)) (fun h => by rw [Bd.returns] at h; cases h)
  exact Goes.leaf (own_retI X0 hx Bd.returns (hb hby d17_17) hr) hrun hended ⟨_, _, rfl, by show Qcr Z p0 p1 z h0 n0 _ s₁.heap _; rw [e0]; exact ⟨rfl, N0, rfl⟩, ⟨_, rfl⟩, hW, hsame.mono (by decide) (by decide)⟩
theorem d16_0 : decode jdk_42_method_155_code 0 = .ok (.iload_n 0, 1) := by decide +kernel
theorem d16_1 : decode jdk_42_method_155_code 1 = .ok (.iload_n 1, 1) := by decide +kernel
theorem d16_2 : decode jdk_42_method_155_code 2 = .ok (.getstatic 1053, 3) := by decide +kernel
theorem d16_5 : decode jdk_42_method_155_code 5 = .ok (.invokestatic 1059, 3) := by decide +kernel
theorem d16_8 : decode jdk_42_method_155_code 8 = .ok (.pop, 1) := by decide +kernel
theorem d16_9 : decode jdk_42_method_155_code 9 = .ok (.return_, 1) := by decide +kernel
theorem pn_16 : plainName "java/lang/String" = true := by first | (simp [plainName, overriddenIn]; done) | decide +kernel
theorem pd_16__IILjava_util_function_BiFunction__I : parseMethodDescriptor "(IILjava/util/function/BiFunction;)I" = some ⟨[.int, .int, (.object "java/util/function/BiFunction")], some .int⟩ := by decide +kernel
theorem ef_ci (m : MethodId) (x0 : Int32) (x1 : Int32) : entryFrame m #[(.int x0), (.int x1)] 2 = mkF m 0 #[.val (.int x0), .val (.int x1)] [] := by first | (simp [entryFrame, mkF, argsToLocals, Value.category]; done) | rfl
def Qci (Z : State) (p0 : Int32) (p1 : Int32) (GA : Int32) (GB : Value) (h0 : Heap) (n0 : Nat) (v : Option Value) (h : Heap) (L : List Loc) : Prop := v = none ∧ Fr n0 L ∧ h = h0
set_option maxRecDepth 65536 in
set_option maxHeartbeats 40000000 in
theorem rmci (l : Launch) (Z : State) (a0 : Array Value) (hw : ∀ d ∈ tables_1, d.before a0 Z = true) (ws : List Jvm.Cond) (p0 : Int32) (p1 : Int32) (GA : Int32) (GB : Value) (h0 : Heap) (n0 : Nat) (Z0 : n0 ≤ h0.size) (SS : own_St Z GA GB) (X00 : Old Z n0 h0) (q1 : ¬ p0 < (0 : Int32)) (q2 : p0 < p1) :
    MetFree l (⟨"java/lang/String", "checkIndex", "(II)V"⟩ : MethodName) (head1 (Jvm.Cond.code (⟨"java/lang/String", "checkIndex", "(II)V"⟩ : MethodName) jdk_42_method_155_code 2 none :: ws) ({ frames := 1, cells := 0, slots := 0, locals := 14 } : Room)) (fun aa U => aa = #[(.int p0), (.int p1)] ∧ Z.Warmed39 U.vm ∧ U.heap = h0) (fun _ _ _ _ _ => True) (fun _ U oo U' => ∃ vv LL, oo = .returned vv ∧ Qci Z p0 p1 GA GB h0 n0 vv U'.heap LL ∧ FrameEnd U oo U' LL ({ frames := 1, cells := 0, slots := 0, locals := 14 } : Room).cells ({ frames := 1, cells := 0, slots := 0, locals := 14 } : Room).slots) := by
  refine MetFree.of_bodySF (plainFor_of_name pn_16) hisR ?_
  intro p e s m args below meth c s₁ Bd hml0 hP hK
  obtain ⟨rfl, hZ, hh⟩ := hP
  have hx := Bd.exec
  have hby := Bd.bytes
  have hml : c.maxLocals = 2 := hml0
  have hown : s.vm.findClass "java/lang/String" = some m.cls := findClass_of_methodNamed Bd.named
  have hnm := (name_of_methodNamed Bd.named Bd.method).1
  have X0 : Stand p l e ({ frames := 1, cells := 0, slots := 0, locals := 14 } : Room) s m #[(.int p0), (.int p1)] below meth c s₁ [] 0 0 := Stand.of_body Bd
  have e0 : s₁.heap = h0 := by rw [← hh, Bd.state]; rfl
  have N0 := Fr.nil n0
  show Goes p e below _ (s₁.setTop (entryFrame m #[(.int p0), (.int p1)] 2))
  refine Goes.on (B := s₁.setTop (mkF m 0 #[.val (.int p0), .val (.int p1)] [])) (fun t k => castTop (ef_ci m p0 p1) k) ?_
  refine Goes.on (B := s₁.setTop (mkF m 2 #[.val (.int p0), .val (.int p1)] [(.int p1), (.int p0)])) (fun _ k => XS.iloadN X0.here hx rfl (hb hby d16_0) rfl  (XS.iloadN X0.here hx rfl (hb hby d16_1) rfl  k)) ?_
  obtain ⟨T1, X1, e1, st1⟩ := getS2 X0 hx hZ hown (host := "") (Or.inl (hw _ (om 82 rfl))) Via.refl e0 (SS.2.2.1.ext X00.2) (g := (mkF m 2 #[.val (.int p0), .val (.int p1)] [(.int p1), (.int p0)])) rfl (hb hby d16_2)
  refine Goes.on (B := T1.setTop (mkF m 5 #[.val (.int p0), .val (.int p1)] [GB, (.int p1), (.int p0)])) (fun t k => st1 t k) ?_
  rcases ref_cases SS.2.2.2.1 with hG | ⟨z, hG⟩ <;> rw [hG]
  · obtain ⟨_, _, ⟨T2, L2, k2, n2⟩, -, X2, ⟨Lc2, hQ2, l2, y2, z2⟩, st2⟩ := Jvm.LawKit.callS X1 hx (y := (⟨"jdk/internal/util/Preconditions", "checkIndex", "(IILjava/util/function/BiFunction;)I"⟩ : MethodName)) hown (mvT hZ (hw _ (om 84 rfl))) (mvT hZ (hw _ (om 85 rfl))) (mvT hZ (hw _ (om 83 rfl))) (mvT hZ (hw _ (om 86 rfl))) (by decide) (backOf (W := 0) (rmcn l Z a0 hw [] p0 p1 h0 n0 Z0 q1 q2) hZ (hw _ (om 86 rfl)) (hw _ (om 83 rfl)) (by decide) (by decide)) (g := (mkF m 5 #[.val (.int p0), .val (.int p1)] [.null, (.int p1), (.int p0)])) rfl (by rw [hml]; rfl) (argsL := [(.int p0), (.int p1), .null]) (rest := []) (lenOf pd_16__IILjava_util_function_BiFunction__I rfl) rfl (by show 2 * 0 + _ ≤ _; exact Nat.le_of_eq rfl) (hb hby d16_5) (fun _ _ => ⟨rfl, e1, (by decide : 0 + 0 ≤ _), (by decide : 0 + 0 ≤ _)⟩)
    dsimp only [Pt.U, Pt.locs, Pt.cells, Pt.slots] at X2 l2 y2 z2 st2 hQ2
    subst l2 y2 z2
    obtain ⟨rfl, Nq2, eh2⟩ := hQ2
    have N2 := Fr.app N0 Nq2
    refine Goes.on (B := T2.setTop (mkF m 8 #[.val (.int p0), .val (.int p1)] [(.int p0)])) (fun t k => st2 t k) ?_
    refine Goes.on (B := T2.setTop (mkF m 9 #[.val (.int p0), .val (.int p1)] [])) (fun _ k => XS.pop X2.here hx rfl (hb hby d16_8) rfl rfl k) ?_
    obtain ⟨fs, hr, hrun, hended, hW, hsame⟩ := X2.leave (v := none) (fun _ => rfl)
    exact Goes.leaf (X2.returnOut hx Bd.returns (hb hby d16_9) hr) hrun hended ⟨_, _, rfl, by show Qci Z p0 p1 GA GB h0 n0 _ T2.heap _; rw [eh2]; exact ⟨rfl, N2, rfl⟩, ⟨_, rfl⟩, hW, hsame.mono (by decide) (by decide)⟩
  · obtain ⟨_, _, ⟨T3, L3, k3, n3⟩, -, X3, ⟨Lc3, hQ3, l3, y3, z3⟩, st3⟩ := Jvm.LawKit.callS X1 hx (y := (⟨"jdk/internal/util/Preconditions", "checkIndex", "(IILjava/util/function/BiFunction;)I"⟩ : MethodName)) hown (mvT hZ (hw _ (om 84 rfl))) (mvT hZ (hw _ (om 85 rfl))) (mvT hZ (hw _ (om 83 rfl))) (mvT hZ (hw _ (om 86 rfl))) (by decide) (backOf (W := 0) (rmcr l Z a0 hw [] p0 p1 z h0 n0 Z0 q1 q2) hZ (hw _ (om 86 rfl)) (hw _ (om 83 rfl)) (by decide) (by decide)) (g := (mkF m 5 #[.val (.int p0), .val (.int p1)] [(.ref z), (.int p1), (.int p0)])) rfl (by rw [hml]; rfl) (argsL := [(.int p0), (.int p1), (.ref z)]) (rest := []) (lenOf pd_16__IILjava_util_function_BiFunction__I rfl) rfl (by show 2 * 0 + _ ≤ _; exact Nat.le_of_eq rfl) (hb hby d16_5) (fun _ _ => ⟨rfl, e1, (by decide : 0 + 0 ≤ _), (by decide : 0 + 0 ≤ _)⟩)
    dsimp only [Pt.U, Pt.locs, Pt.cells, Pt.slots] at X3 l3 y3 z3 st3 hQ3
    subst l3 y3 z3
    obtain ⟨rfl, Nq3, eh3⟩ := hQ3
    have N3 := Fr.app N0 Nq3
    refine Goes.on (B := T3.setTop (mkF m 8 #[.val (.int p0), .val (.int p1)] [(.int p0)])) (fun t k => st3 t k) ?_
    refine Goes.on (B := T3.setTop (mkF m 9 #[.val (.int p0), .val (.int p1)] [])) (fun _ k => XS.pop X3.here hx rfl (hb hby d16_8) rfl rfl k) ?_
    obtain ⟨fs, hr, hrun, hended, hW, hsame⟩ := X3.leave (v := none) (fun _ => rfl)
    exact Goes.leaf (X3.returnOut hx Bd.returns (hb hby d16_9) hr) hrun hended ⟨_, _, rfl, by show Qci Z p0 p1 GA GB h0 n0 _ T3.heap _; rw [eh3]; exact ⟨rfl, N3, rfl⟩, ⟨_, rfl⟩, hW, hsame.mono (by decide) (by decide)⟩
theorem d8_0 : decode jdk_42_method_152_code 0 = .ok (.getstatic 38, 3) := by decide +kernel
theorem d8_3 : decode jdk_42_method_152_code 3 = .ok (.ifCond .eq 10, 3) := by decide +kernel
theorem d8_6 : decode jdk_42_method_152_code 6 = .ok (.aload_n 0, 1) := by decide +kernel
theorem d8_7 : decode jdk_42_method_152_code 7 = .ok (.getfield 15, 3) := by decide +kernel
theorem d8_10 : decode jdk_42_method_152_code 10 = .ok (.goto 4, 3) := by decide +kernel
theorem d8_14 : decode jdk_42_method_152_code 14 = .ok (.ireturn, 1) := by decide +kernel
theorem pn_8 : plainName "java/lang/String" = true := by first | (simp [plainName, overriddenIn]; done) | decide +kernel
theorem ef_cd (m : MethodId) (x0 : Addr) : entryFrame m #[(.ref x0)] 1 = mkF m 0 #[.val (.ref x0)] [] := by first | (simp [entryFrame, mkF, argsToLocals, Value.category]; done) | rfl
def Qcd (Z : State) (a : Addr) (GA : Int32) (GB : Value) (h0 : Heap) (n0 : Nat) (v : Option Value) (h : Heap) (L : List Loc) : Prop := v = some (.int (1 : Int32)) ∧ Fr n0 L ∧ h = h0
set_option maxRecDepth 65536 in
set_option maxHeartbeats 40000000 in
theorem rmcd (l : Launch) (Z : State) (a0 : Array Value) (hw : ∀ d ∈ tables_1, d.before a0 Z = true) (ws : List Jvm.Cond) (a : Addr) (GA : Int32) (GB : Value) (h0 : Heap) (n0 : Nat) (Z0 : n0 ≤ h0.size) (SS : own_St Z GA GB) (X00 : Old Z n0 h0) (FC : Fld Z h0 a "java/lang/String" "coder" "B" (.int (1 : Int32))) :
    MetFree l (⟨"java/lang/String", "coder", "()B"⟩ : MethodName) (head1 (Jvm.Cond.code (⟨"java/lang/String", "coder", "()B"⟩ : MethodName) jdk_42_method_152_code 1 (some .byte) :: ws) ({ frames := 0, cells := 0, slots := 0, locals := 0 } : Room)) (fun aa U => aa = #[(.ref a)] ∧ Z.Warmed39 U.vm ∧ U.heap = h0) (fun _ _ _ _ _ => True) (fun _ U oo U' => ∃ vv LL, oo = .returned vv ∧ Qcd Z a GA GB h0 n0 vv U'.heap LL ∧ FrameEnd U oo U' LL ({ frames := 0, cells := 0, slots := 0, locals := 0 } : Room).cells ({ frames := 0, cells := 0, slots := 0, locals := 0 } : Room).slots) := by
  refine MetFree.of_bodySF (plainFor_of_name pn_8) hisR ?_
  intro p e s m args below meth c s₁ Bd hml0 hP hK
  obtain ⟨rfl, hZ, hh⟩ := hP
  have hx := Bd.exec
  have hby := Bd.bytes
  have hml : c.maxLocals = 1 := hml0
  have hown : s.vm.findClass "java/lang/String" = some m.cls := findClass_of_methodNamed Bd.named
  have hnm := (name_of_methodNamed Bd.named Bd.method).1
  have X0 : Stand p l e ({ frames := 0, cells := 0, slots := 0, locals := 0 } : Room) s m #[(.ref a)] below meth c s₁ [] 0 0 := Stand.of_body Bd
  have e0 : s₁.heap = h0 := by rw [← hh, Bd.state]; rfl
  have N0 := Fr.nil n0
  show Goes p e below _ (s₁.setTop (entryFrame m #[(.ref a)] 1))
  refine Goes.on (B := s₁.setTop (mkF m 0 #[.val (.ref a)] [])) (fun t k => castTop (ef_cd m a) k) ?_
  obtain ⟨T1, X1, e1, st1⟩ := getS2 X0 hx hZ hown (host := "") (Or.inl (hw _ (om 48 rfl))) Via.refl e0 (SS.1.ext X00.2) (g := (mkF m 0 #[.val (.ref a)] [])) rfl (hb hby d8_0)
  refine Goes.on (B := T1.setTop (mkF m 3 #[.val (.ref a)] [(.int GA)])) (fun t k => st1 t k) ?_
  refine Goes.on (B := T1.setTop (mkF m 7 #[.val (.ref a)] [(.ref a)])) (fun _ k => XS.ifNo X1.here hx rfl (hb hby d8_3) rfl ((if0 _ _).trans (feq SS.2.1).1) (XS.aloadN X1.here hx rfl (hb hby d8_6) rfl rfl  k)) ?_
  obtain ⟨T2, X2, e2, st2⟩ := getF X1 hx hZ hown (host := "") (Or.inl (hw _ (om 29 rfl))) Via.refl e1 FC (g := (mkF m 7 #[.val (.ref a)] [(.ref a)])) rfl rfl (hb hby d8_7)
  refine Goes.on (B := T2.setTop (mkF m 10 #[.val (.ref a)] [(.int (1 : Int32))])) (fun t k => st2 t k) ?_
  refine Goes.on (B := T2.setTop (mkF m 14 #[.val (.ref a)] [(.int (1 : Int32))])) (fun _ k => XS.goto X2.here hx rfl (pc0 := 10) (pc' := 14) rfl (hb hby d8_10) (by decide) (by decide) k) ?_
  obtain ⟨fs, hr, hrun, hended, hW, hsame⟩ := X2.leave (v := some (.int (1 : Int32))) (fun h => by rw [Bd.returns] at h; cases h)
  exact Goes.leaf (retN X2 hx (t := .byte) Bd.returns (by simp) (hb hby d8_14) hr) hrun hended ⟨_, _, rfl, by show Qcd Z a GA GB h0 n0 _ T2.heap _; rw [e2]; exact ⟨rfl, N0, rfl⟩, ⟨_, rfl⟩, hW, hsame.mono (by decide) (by decide)⟩
theorem d14_0 : decode jdk_42_method_154_code 0 = .ok (.getstatic 38, 3) := by decide +kernel
theorem d14_3 : decode jdk_42_method_154_code 3 = .ok (.ifCond .eq 14, 3) := by decide +kernel
theorem d14_6 : decode jdk_42_method_154_code 6 = .ok (.aload_n 0, 1) := by decide +kernel
theorem d14_7 : decode jdk_42_method_154_code 7 = .ok (.getfield 15, 3) := by decide +kernel
theorem d14_10 : decode jdk_42_method_154_code 10 = .ok (.ifCond .ne 7, 3) := by decide +kernel
theorem d14_17 : decode jdk_42_method_154_code 17 = .ok (.iconst 0, 1) := by decide +kernel
theorem d14_18 : decode jdk_42_method_154_code 18 = .ok (.ireturn, 1) := by decide +kernel
theorem pn_14 : plainName "java/lang/String" = true := by first | (simp [plainName, overriddenIn]; done) | decide +kernel
theorem ef_il (m : MethodId) (x0 : Addr) : entryFrame m #[(.ref x0)] 1 = mkF m 0 #[.val (.ref x0)] [] := by first | (simp [entryFrame, mkF, argsToLocals, Value.category]; done) | rfl
def Qil (Z : State) (a : Addr) (GA : Int32) (GB : Value) (h0 : Heap) (n0 : Nat) (v : Option Value) (h : Heap) (L : List Loc) : Prop := v = some (.int (0 : Int32)) ∧ Fr n0 L ∧ h = h0
set_option maxRecDepth 65536 in
set_option maxHeartbeats 40000000 in
theorem rmil (l : Launch) (Z : State) (a0 : Array Value) (hw : ∀ d ∈ tables_1, d.before a0 Z = true) (ws : List Jvm.Cond) (a : Addr) (GA : Int32) (GB : Value) (h0 : Heap) (n0 : Nat) (Z0 : n0 ≤ h0.size) (SS : own_St Z GA GB) (X00 : Old Z n0 h0) (FC : Fld Z h0 a "java/lang/String" "coder" "B" (.int (1 : Int32))) :
    MetFree l (⟨"java/lang/String", "isLatin1", "()Z"⟩ : MethodName) (head1 (Jvm.Cond.code (⟨"java/lang/String", "isLatin1", "()Z"⟩ : MethodName) jdk_42_method_154_code 1 (some .boolean) :: ws) ({ frames := 0, cells := 0, slots := 0, locals := 0 } : Room)) (fun aa U => aa = #[(.ref a)] ∧ Z.Warmed39 U.vm ∧ U.heap = h0) (fun _ _ _ _ _ => True) (fun _ U oo U' => ∃ vv LL, oo = .returned vv ∧ Qil Z a GA GB h0 n0 vv U'.heap LL ∧ FrameEnd U oo U' LL ({ frames := 0, cells := 0, slots := 0, locals := 0 } : Room).cells ({ frames := 0, cells := 0, slots := 0, locals := 0 } : Room).slots) := by
  refine MetFree.of_bodySF (plainFor_of_name pn_14) hisR ?_
  intro p e s m args below meth c s₁ Bd hml0 hP hK
  obtain ⟨rfl, hZ, hh⟩ := hP
  have hx := Bd.exec
  have hby := Bd.bytes
  have hml : c.maxLocals = 1 := hml0
  have hown : s.vm.findClass "java/lang/String" = some m.cls := findClass_of_methodNamed Bd.named
  have hnm := (name_of_methodNamed Bd.named Bd.method).1
  have X0 : Stand p l e ({ frames := 0, cells := 0, slots := 0, locals := 0 } : Room) s m #[(.ref a)] below meth c s₁ [] 0 0 := Stand.of_body Bd
  have e0 : s₁.heap = h0 := by rw [← hh, Bd.state]; rfl
  have N0 := Fr.nil n0
  show Goes p e below _ (s₁.setTop (entryFrame m #[(.ref a)] 1))
  refine Goes.on (B := s₁.setTop (mkF m 0 #[.val (.ref a)] [])) (fun t k => castTop (ef_il m a) k) ?_
  obtain ⟨T1, X1, e1, st1⟩ := getS2 X0 hx hZ hown (host := "") (Or.inl (hw _ (om 48 rfl))) Via.refl e0 (SS.1.ext X00.2) (g := (mkF m 0 #[.val (.ref a)] [])) rfl (hb hby d14_0)
  refine Goes.on (B := T1.setTop (mkF m 3 #[.val (.ref a)] [(.int GA)])) (fun t k => st1 t k) ?_
  refine Goes.on (B := T1.setTop (mkF m 7 #[.val (.ref a)] [(.ref a)])) (fun _ k => XS.ifNo X1.here hx rfl (hb hby d14_3) rfl ((if0 _ _).trans (feq SS.2.1).1) (XS.aloadN X1.here hx rfl (hb hby d14_6) rfl rfl  k)) ?_
  obtain ⟨T2, X2, e2, st2⟩ := getF X1 hx hZ hown (host := "") (Or.inl (hw _ (om 29 rfl))) Via.refl e1 FC (g := (mkF m 7 #[.val (.ref a)] [(.ref a)])) rfl rfl (hb hby d14_7)
  refine Goes.on (B := T2.setTop (mkF m 10 #[.val (.ref a)] [(.int (1 : Int32))])) (fun t k => st2 t k) ?_
  refine Goes.on (B := T2.setTop (mkF m 18 #[.val (.ref a)] [(.int (0 : Int32))])) (fun _ k => XS.ifYes X2.here hx rfl (pc0 := 10) (pc' := 17) rfl (hb hby d14_10) rfl ((if0 _ _).trans (feq (by decide)).2) (by decide) (by decide) (XS.iconst X2.here hx rfl (hb hby d14_17) k)) ?_
  obtain ⟨fs, hr, hrun, hended, hW, hsame⟩ := X2.leave (v := some (.int (0 : Int32))) (fun h => by rw [Bd.returns] at h; cases h)
  exact Goes.leaf (retN X2 hx (t := .boolean) Bd.returns (by simp) (hb hby d14_18) hr) hrun hended ⟨_, _, rfl, by show Qil Z a GA GB h0 n0 _ T2.heap _; rw [e2]; exact ⟨rfl, N0, rfl⟩, ⟨_, rfl⟩, hW, hsame.mono (by decide) (by decide)⟩
theorem d26_0 : decode jdk_52_method_6_code 0 = .ok (.aload_n 0, 1) := by decide +kernel
theorem d26_1 : decode jdk_52_method_6_code 1 = .ok (.arraylength, 1) := by decide +kernel
theorem d26_2 : decode jdk_52_method_6_code 2 = .ok (.iconst 1, 1) := by decide +kernel
theorem d26_3 : decode jdk_52_method_6_code 3 = .ok (.ishr, 1) := by decide +kernel
theorem d26_4 : decode jdk_52_method_6_code 4 = .ok (.ireturn, 1) := by decide +kernel
theorem pn_26 : plainName "java/lang/StringUTF16" = true := by first | (simp [plainName, overriddenIn]; done) | decide +kernel
theorem ef_ul (m : MethodId) (x0 : Addr) : entryFrame m #[(.ref x0)] 1 = mkF m 0 #[.val (.ref x0)] [] := by first | (simp [entryFrame, mkF, argsToLocals, Value.category]; done) | rfl
def Qul (Z : State) (a : Addr) (kA : ClassId) (NN : Int32) (vs : List Value) (h0 : Heap) (n0 : Nat) (v : Option Value) (h : Heap) (L : List Loc) : Prop := v = some (.int (NN >>> ((1 : Int32) &&& 31))) ∧ Fr n0 L ∧ h = h0
set_option maxRecDepth 65536 in
set_option maxHeartbeats 40000000 in
theorem rmul (l : Launch) (Z : State) (a0 : Array Value) (hw : ∀ d ∈ tables_1, d.before a0 Z = true) (ws : List Jvm.Cond) (a : Addr) (kA : ClassId) (NN : Int32) (vs : List Value) (h0 : Heap) (n0 : Nat) (Z0 : n0 ≤ h0.size) (AV : Arv Z h0 a kA .byte NN vs (.int (0 : Int32))) :
    MetFree l (⟨"java/lang/StringUTF16", "length", "([B)I"⟩ : MethodName) (head1 (Jvm.Cond.code (⟨"java/lang/StringUTF16", "length", "([B)I"⟩ : MethodName) jdk_52_method_6_code 1 (some .int) :: ws) ({ frames := 0, cells := 0, slots := 0, locals := 0 } : Room)) (fun aa U => aa = #[(.ref a)] ∧ Z.Warmed39 U.vm ∧ U.heap = h0) (fun _ _ _ _ _ => True) (fun _ U oo U' => ∃ vv LL, oo = .returned vv ∧ Qul Z a kA NN vs h0 n0 vv U'.heap LL ∧ FrameEnd U oo U' LL ({ frames := 0, cells := 0, slots := 0, locals := 0 } : Room).cells ({ frames := 0, cells := 0, slots := 0, locals := 0 } : Room).slots) := by
  refine MetFree.of_bodySF (plainFor_of_name pn_26) hisR ?_
  intro p e s m args below meth c s₁ Bd hml0 hP hK
  obtain ⟨rfl, hZ, hh⟩ := hP
  have hx := Bd.exec
  have hby := Bd.bytes
  have hml : c.maxLocals = 1 := hml0
  have hown : s.vm.findClass "java/lang/StringUTF16" = some m.cls := findClass_of_methodNamed Bd.named
  have hnm := (name_of_methodNamed Bd.named Bd.method).1
  have X0 : Stand p l e ({ frames := 0, cells := 0, slots := 0, locals := 0 } : Room) s m #[(.ref a)] below meth c s₁ [] 0 0 := Stand.of_body Bd
  have e0 : s₁.heap = h0 := by rw [← hh, Bd.state]; rfl
  have N0 := Fr.nil n0
  show Goes p e below _ (s₁.setTop (entryFrame m #[(.ref a)] 1))
  refine Goes.on (B := s₁.setTop (mkF m 0 #[.val (.ref a)] [])) (fun t k => castTop (ef_ul m a) k) ?_
  refine Goes.on (B := s₁.setTop (mkF m 1 #[.val (.ref a)] [(.ref a)])) (fun _ k => XS.aloadN X0.here hx rfl (hb hby d26_0) rfl rfl  k) ?_
  obtain ⟨cl1, Ar1, -, S1, Nn1, -, -⟩ := id AV
  refine Goes.on (B := s₁.setTop (mkF m 2 #[.val (.ref a)] [(.int NN)])) (fun t k => X0.arraylength hx (by rw [e0]; exact Ar1.1) (State.isArrayOf_alike hZ.alike Ar1.2.1) (g := (mkF m 1 #[.val (.ref a)] [(.ref a)])) rfl rfl (hb hby d26_1) t (by rw [len_of S1 Nn1]; exact k)) ?_
  refine Goes.on (B := s₁.setTop (mkF m 4 #[.val (.ref a)] [(.int (NN >>> ((1 : Int32) &&& 31)))])) (fun _ k => XS.iconst X0.here hx rfl (hb hby d26_2) (XS.ishr X0.here hx rfl (hb hby d26_3) rfl k)) ?_
  obtain ⟨fs, hr, hrun, hended, hW, hsame⟩ := X0.leave (v := some (.int (NN >>> ((1 : Int32) &&& 31)))) (fun h => by rw [Bd.returns] at h; cases h)
  exact Goes.leaf (own_retI X0 hx Bd.returns (hb hby d26_4) hr) hrun hended ⟨_, _, rfl, by show Qul Z a kA NN vs h0 n0 _ s₁.heap _; rw [e0]; exact ⟨rfl, N0, rfl⟩, ⟨_, rfl⟩, hW, hsame.mono (by decide) (by decide)⟩
theorem d25_0 : decode jdk_52_method_91_code 0 = .ok (.iload_n 0, 1) := by decide +kernel
theorem d25_1 : decode jdk_52_method_91_code 1 = .ok (.aload_n 1, 1) := by decide +kernel
theorem d25_2 : decode jdk_52_method_91_code 2 = .ok (.invokestatic 48, 3) := by decide +kernel
theorem d25_5 : decode jdk_52_method_91_code 5 = .ok (.invokestatic 414, 3) := by decide +kernel
theorem d25_8 : decode jdk_52_method_91_code 8 = .ok (.return_, 1) := by decide +kernel
theorem pn_25 : plainName "java/lang/StringUTF16" = true := by first | (simp [plainName, overriddenIn]; done) | decide +kernel
theorem pd_25___B_I : parseMethodDescriptor "([B)I" = some ⟨[(.array .byte)], some .int⟩ := by decide +kernel
theorem pd_25__II_V : parseMethodDescriptor "(II)V" = some ⟨[.int, .int], none⟩ := by decide +kernel
theorem ef_uc (m : MethodId) (x0 : Int32) (x1 : Addr) : entryFrame m #[(.int x0), (.ref x1)] 2 = mkF m 0 #[.val (.int x0), .val (.ref x1)] [] := by first | (simp [entryFrame, mkF, argsToLocals, Value.category]; done) | rfl
def Quc (Z : State) (p1 : Int32) (a : Addr) (kA : ClassId) (NN : Int32) (vs : List Value) (GA : Int32) (GB : Value) (h0 : Heap) (n0 : Nat) (v : Option Value) (h : Heap) (L : List Loc) : Prop := v = none ∧ Fr n0 L ∧ h = h0
set_option maxRecDepth 65536 in
set_option maxHeartbeats 40000000 in
theorem rmuc (l : Launch) (Z : State) (a0 : Array Value) (hw : ∀ d ∈ tables_1, d.before a0 Z = true) (ws : List Jvm.Cond) (p1 : Int32) (a : Addr) (kA : ClassId) (NN : Int32) (vs : List Value) (GA : Int32) (GB : Value) (h0 : Heap) (n0 : Nat) (Z0 : n0 ≤ h0.size) (SS : own_St Z GA GB) (X00 : Old Z n0 h0) (AV : Arv Z h0 a kA .byte NN vs (.int (0 : Int32))) (q1 : ¬ p1 < (0 : Int32)) (q2 : p1 < (NN >>> ((1 : Int32) &&& 31))) :
    MetFree l (⟨"java/lang/StringUTF16", "checkIndex", "(I[B)V"⟩ : MethodName) (head1 (Jvm.Cond.code (⟨"java/lang/StringUTF16", "checkIndex", "(I[B)V"⟩ : MethodName) jdk_52_method_91_code 2 none :: ws) ({ frames := 2, cells := 0, slots := 0, locals := 27 } : Room)) (fun aa U => aa = #[(.int p1), (.ref a)] ∧ Z.Warmed39 U.vm ∧ U.heap = h0) (fun _ _ _ _ _ => True) (fun _ U oo U' => ∃ vv LL, oo = .returned vv ∧ Quc Z p1 a kA NN vs GA GB h0 n0 vv U'.heap LL ∧ FrameEnd U oo U' LL ({ frames := 2, cells := 0, slots := 0, locals := 27 } : Room).cells ({ frames := 2, cells := 0, slots := 0, locals := 27 } : Room).slots) := by
  refine MetFree.of_bodySF (plainFor_of_name pn_25) hisR ?_
  intro p e s m args below meth c s₁ Bd hml0 hP hK
  obtain ⟨rfl, hZ, hh⟩ := hP
  have hx := Bd.exec
  have hby := Bd.bytes
  have hml : c.maxLocals = 2 := hml0
  have hown : s.vm.findClass "java/lang/StringUTF16" = some m.cls := findClass_of_methodNamed Bd.named
  have hnm := (name_of_methodNamed Bd.named Bd.method).1
  have X0 : Stand p l e ({ frames := 2, cells := 0, slots := 0, locals := 27 } : Room) s m #[(.int p1), (.ref a)] below meth c s₁ [] 0 0 := Stand.of_body Bd
  have e0 : s₁.heap = h0 := by rw [← hh, Bd.state]; rfl
  have N0 := Fr.nil n0
  show Goes p e below _ (s₁.setTop (entryFrame m #[(.int p1), (.ref a)] 2))
  refine Goes.on (B := s₁.setTop (mkF m 0 #[.val (.int p1), .val (.ref a)] [])) (fun t k => castTop (ef_uc m p1 a) k) ?_
  refine Goes.on (B := s₁.setTop (mkF m 2 #[.val (.int p1), .val (.ref a)] [(.ref a), (.int p1)])) (fun _ k => XS.iloadN X0.here hx rfl (hb hby d25_0) rfl  (XS.aloadN X0.here hx rfl (hb hby d25_1) rfl rfl  k)) ?_
  obtain ⟨_, _, ⟨T1, L1, k1, n1⟩, -, X1, ⟨Lc1, hQ1, l1, y1, z1⟩, st1⟩ := Jvm.LawKit.callS X0 hx (y := (⟨"java/lang/StringUTF16", "length", "([B)I"⟩ : MethodName)) hown (mvT hZ (hw _ (om 115 rfl))) (mvT hZ (hw _ (om 116 rfl))) (mvT hZ (hw _ (om 51 rfl))) (mvT hZ (hw _ (om 117 rfl))) (by decide) (backOf (W := 1) (rmul l Z a0 hw [] a kA NN vs h0 n0 Z0 AV) hZ (hw _ (om 117 rfl)) (hw _ (om 51 rfl)) (by decide) (by decide)) (g := (mkF m 2 #[.val (.int p1), .val (.ref a)] [(.ref a), (.int p1)])) rfl (by rw [hml]; rfl) (argsL := [(.ref a)]) (rest := [(.int p1)]) (lenOf pd_25___B_I rfl) rfl (by show 2 * 0 + _ ≤ _; exact Nat.le_of_eq rfl) (hb hby d25_2) (fun _ _ => ⟨rfl, e0, (by decide : 0 + 0 ≤ _), (by decide : 0 + 0 ≤ _)⟩)
  dsimp only [Pt.U, Pt.locs, Pt.cells, Pt.slots] at X1 l1 y1 z1 st1 hQ1
  subst l1 y1 z1
  obtain ⟨rfl, Nq1, eh1⟩ := hQ1
  have N1 := Fr.app N0 Nq1
  refine Goes.on (B := T1.setTop (mkF m 5 #[.val (.int p1), .val (.ref a)] [(.int (NN >>> ((1 : Int32) &&& 31))), (.int p1)])) (fun t k => st1 t k) ?_
  obtain ⟨_, _, ⟨T2, L2, k2, n2⟩, -, X2, ⟨Lc2, hQ2, l2, y2, z2⟩, st2⟩ := Jvm.LawKit.callS X1 hx (y := (⟨"java/lang/String", "checkIndex", "(II)V"⟩ : MethodName)) hown (mvT hZ (hw _ (om 118 rfl))) (mvT hZ (hw _ (om 80 rfl))) (mvT hZ (hw _ (om 10 rfl))) (mvT hZ (hw _ (om 81 rfl))) (by decide) (backOf (W := 0) (rmci l Z a0 hw [] p1 (NN >>> ((1 : Int32) &&& 31)) GA GB h0 n0 Z0 SS X00 q1 q2) hZ (hw _ (om 81 rfl)) (hw _ (om 10 rfl)) (by decide) (by decide)) (g := (mkF m 5 #[.val (.int p1), .val (.ref a)] [(.int (NN >>> ((1 : Int32) &&& 31))), (.int p1)])) rfl (by rw [hml]; rfl) (argsL := [(.int p1), (.int (NN >>> ((1 : Int32) &&& 31)))]) (rest := []) (lenOf pd_25__II_V rfl) rfl (by show 2 * 0 + _ ≤ _; exact Nat.le_of_eq rfl) (hb hby d25_5) (fun _ _ => ⟨rfl, eh1, (by decide : 0 + 0 ≤ _), (by decide : 0 + 0 ≤ _)⟩)
  dsimp only [Pt.U, Pt.locs, Pt.cells, Pt.slots] at X2 l2 y2 z2 st2 hQ2
  subst l2 y2 z2
  obtain ⟨rfl, Nq2, eh2⟩ := hQ2
  have N2 := Fr.app N1 Nq2
  refine Goes.on (B := T2.setTop (mkF m 8 #[.val (.int p1), .val (.ref a)] [])) (fun t k => st2 t k) ?_
  obtain ⟨fs, hr, hrun, hended, hW, hsame⟩ := X2.leave (v := none) (fun _ => rfl)
  exact Goes.leaf (X2.returnOut hx Bd.returns (hb hby d25_8) hr) hrun hended ⟨_, _, rfl, by show Quc Z p1 a kA NN vs GA GB h0 n0 _ T2.heap _; rw [eh2]; exact ⟨rfl, N2, rfl⟩, ⟨_, rfl⟩, hW, hsame.mono (by decide) (by decide)⟩
theorem d23_0 : decode jdk_52_method_5_code 0 = .ok (.getstatic 44, 3) := by decide +kernel
theorem d23_3 : decode jdk_52_method_5_code 3 = .ok (.ifCond .ne 25, 3) := by decide +kernel
theorem d23_28 : decode jdk_52_method_5_code 28 = .ok (.iload_n 1, 1) := by decide +kernel
theorem d23_29 : decode jdk_52_method_5_code 29 = .ok (.iconst 1, 1) := by decide +kernel
theorem d23_30 : decode jdk_52_method_5_code 30 = .ok (.ishl, 1) := by decide +kernel
theorem d23_31 : decode jdk_52_method_5_code 31 = .ok (.istore_n 1, 1) := by decide +kernel
theorem d23_32 : decode jdk_52_method_5_code 32 = .ok (.aload_n 0, 1) := by decide +kernel
theorem d23_33 : decode jdk_52_method_5_code 33 = .ok (.iload_n 1, 1) := by decide +kernel
theorem d23_34 : decode jdk_52_method_5_code 34 = .ok (.iinc 1 1, 3) := by decide +kernel
theorem d23_37 : decode jdk_52_method_5_code 37 = .ok (.baload, 1) := by decide +kernel
theorem d23_38 : decode jdk_52_method_5_code 38 = .ok (.sipush 255, 3) := by decide +kernel
theorem d23_41 : decode jdk_52_method_5_code 41 = .ok (.iand, 1) := by decide +kernel
theorem d23_42 : decode jdk_52_method_5_code 42 = .ok (.getstatic 59, 3) := by decide +kernel
theorem d23_45 : decode jdk_52_method_5_code 45 = .ok (.ishl, 1) := by decide +kernel
theorem d23_46 : decode jdk_52_method_5_code 46 = .ok (.aload_n 0, 1) := by decide +kernel
theorem d23_47 : decode jdk_52_method_5_code 47 = .ok (.iload_n 1, 1) := by decide +kernel
theorem d23_48 : decode jdk_52_method_5_code 48 = .ok (.baload, 1) := by decide +kernel
theorem d23_49 : decode jdk_52_method_5_code 49 = .ok (.sipush 255, 3) := by decide +kernel
theorem d23_52 : decode jdk_52_method_5_code 52 = .ok (.iand, 1) := by decide +kernel
theorem d23_53 : decode jdk_52_method_5_code 53 = .ok (.getstatic 63, 3) := by decide +kernel
theorem d23_56 : decode jdk_52_method_5_code 56 = .ok (.ishl, 1) := by decide +kernel
theorem d23_57 : decode jdk_52_method_5_code 57 = .ok (.ior, 1) := by decide +kernel
theorem d23_58 : decode jdk_52_method_5_code 58 = .ok (.i2c, 1) := by decide +kernel
theorem d23_59 : decode jdk_52_method_5_code 59 = .ok (.ireturn, 1) := by decide +kernel
theorem pn_23 : plainName "java/lang/StringUTF16" = true := by first | (simp [plainName, overriddenIn]; done) | decide +kernel
theorem ef_gc (m : MethodId) (x0 : Addr) (x1 : Int32) : entryFrame m #[(.ref x0), (.int x1)] 2 = mkF m 0 #[.val (.ref x0), .val (.int x1)] [] := by first | (simp [entryFrame, mkF, argsToLocals, Value.category]; done) | rfl
def Qgc (Z : State) (a : Addr) (p1 : Int32) (kA : ClassId) (NN : Int32) (vs : List Value) (y : Int32) (GA : Int32) (GB : Value) (h0 : Heap) (n0 : Nat) (v : Option Value) (h : Heap) (L : List Loc) : Prop := v = some (.int y) ∧ Fr n0 L ∧ h = h0
set_option maxRecDepth 65536 in
set_option maxHeartbeats 40000000 in
theorem rmgc (l : Launch) (Z : State) (a0 : Array Value) (hw : ∀ d ∈ tables_1, d.before a0 Z = true) (ws : List Jvm.Cond) (a : Addr) (p1 : Int32) (kA : ClassId) (NN : Int32) (vs : List Value) (y : Int32) (GA : Int32) (GB : Value) (h0 : Heap) (n0 : Nat) (Z0 : n0 ≤ h0.size) (SS : own_St Z GA GB) (X00 : Old Z n0 h0) (AV : Arv Z h0 a kA .byte NN vs (.int (0 : Int32))) (hi0 : ¬ (p1 <<< ((1 : Int32) &&& 31)) < 0 ∧ (p1 <<< ((1 : Int32) &&& 31)) < NN) (hi1 : ¬ ((p1 <<< ((1 : Int32) &&& 31)) + (1 : Int32)) < 0 ∧ ((p1 <<< ((1 : Int32) &&& 31)) + (1 : Int32)) < NN) (ha0 : vs.getD ((p1 <<< ((1 : Int32) &&& 31))).toNatClampNeg (.int (0 : Int32)) = (.int (bA y))) (ha1 : vs.getD (((p1 <<< ((1 : Int32) &&& 31)) + (1 : Int32))).toNatClampNeg (.int (0 : Int32)) = (.int (bB y))) (ry : own_rg y) :
    MetFree l (⟨"java/lang/StringUTF16", "getChar", "([BI)C"⟩ : MethodName) (head1 (Jvm.Cond.code (⟨"java/lang/StringUTF16", "getChar", "([BI)C"⟩ : MethodName) jdk_52_method_5_code 2 (some .char) :: ws) ({ frames := 0, cells := 0, slots := 0, locals := 0 } : Room)) (fun aa U => aa = #[(.ref a), (.int p1)] ∧ Z.Warmed39 U.vm ∧ U.heap = h0) (fun _ _ _ _ _ => True) (fun _ U oo U' => ∃ vv LL, oo = .returned vv ∧ Qgc Z a p1 kA NN vs y GA GB h0 n0 vv U'.heap LL ∧ FrameEnd U oo U' LL ({ frames := 0, cells := 0, slots := 0, locals := 0 } : Room).cells ({ frames := 0, cells := 0, slots := 0, locals := 0 } : Room).slots) := by
  refine MetFree.of_bodySF (plainFor_of_name pn_23) hisR ?_
  intro p e s m args below meth c s₁ Bd hml0 hP hK
  obtain ⟨rfl, hZ, hh⟩ := hP
  have hx := Bd.exec
  have hby := Bd.bytes
  have hml : c.maxLocals = 2 := hml0
  have hown : s.vm.findClass "java/lang/StringUTF16" = some m.cls := findClass_of_methodNamed Bd.named
  have hnm := (name_of_methodNamed Bd.named Bd.method).1
  have X0 : Stand p l e ({ frames := 0, cells := 0, slots := 0, locals := 0 } : Room) s m #[(.ref a), (.int p1)] below meth c s₁ [] 0 0 := Stand.of_body Bd
  have e0 : s₁.heap = h0 := by rw [← hh, Bd.state]; rfl
  have N0 := Fr.nil n0
  show Goes p e below _ (s₁.setTop (entryFrame m #[(.ref a), (.int p1)] 2))
  refine Goes.on (B := s₁.setTop (mkF m 0 #[.val (.ref a), .val (.int p1)] [])) (fun t k => castTop (ef_gc m a p1) k) ?_
  obtain ⟨T1, X1, e1, st1⟩ := getS2 X0 hx hZ hown (host := "") (Or.inl (hw _ (om 103 rfl))) Via.refl e0 (SS.2.2.2.2.1.ext X00.2) (g := (mkF m 0 #[.val (.ref a), .val (.int p1)] [])) rfl (hb hby d23_0)
  refine Goes.on (B := T1.setTop (mkF m 3 #[.val (.ref a), .val (.int p1)] [(.int (1 : Int32))])) (fun t k => st1 t k) ?_
  refine Goes.on (B := T1.setTop (mkF m 37 #[.val (.ref a), .val (.int ((p1 <<< ((1 : Int32) &&& 31)) + (1 : Int32)))] [(.int (p1 <<< ((1 : Int32) &&& 31))), (.ref a)])) (fun _ k => XS.ifYes X1.here hx rfl (pc0 := 3) (pc' := 28) rfl (hb hby d23_3) rfl ((if0 _ _).trans (feq (by decide)).2) (by decide) (by decide) (XS.iloadN X1.here hx rfl (hb hby d23_28) rfl  (XS.iconst X1.here hx rfl (hb hby d23_29) (XS.ishl X1.here hx rfl (hb hby d23_30) rfl (XS.istoreN X1.here hx rfl (hb hby d23_31) rfl (l' := #[.val (.ref a), .val (.int (p1 <<< ((1 : Int32) &&& 31)))]) rfl (XS.aloadN X1.here hx rfl (hb hby d23_32) rfl rfl  (XS.iloadN X1.here hx rfl (hb hby d23_33) rfl  (XS.iinc X1.here hx rfl (hb hby d23_34) rfl (l' := #[.val (.ref a), .val (.int ((p1 <<< ((1 : Int32) &&& 31)) + (1 : Int32)))]) rfl k)))))))) ?_
  obtain ⟨cl2, Ar2, q2, S2, Nn2, H2, G2⟩ := id AV
  have hin2 : ¬ ((p1 <<< ((1 : Int32) &&& 31)) < 0 ∨ cl2.slots.size ≤ ((p1 <<< ((1 : Int32) &&& 31))).toNatClampNeg) := inb_of S2 hi0
  refine Goes.on (B := T1.setTop (mkF m 42 #[.val (.ref a), .val (.int ((p1 <<< ((1 : Int32) &&& 31)) + (1 : Int32)))] [(.int ((bA y) &&& (255 : Int32)))])) (fun _ k => X1.baloadBytes hx (j := (p1 <<< ((1 : Int32) &&& 31))) (v := (.int (bA y))) (by rw [e1]; exact Ar2.1) (State.isArrayOf_alike hZ.alike Ar2.2.1) Ar2.2.2 hin2 (H2.at hin2 ha0) (g := (mkF m 37 #[.val (.ref a), .val (.int ((p1 <<< ((1 : Int32) &&& 31)) + (1 : Int32)))] [(.int (p1 <<< ((1 : Int32) &&& 31))), (.ref a)])) rfl rfl (hb hby d23_37) _ (XS.sipush X1.here hx rfl (hb hby d23_38) (XS.iand X1.here hx rfl (hb hby d23_41) rfl k))) ?_
  obtain ⟨T3, X3, e3, st3⟩ := getS2 X1 hx hZ hown (host := "") (Or.inl (hw _ (om 104 rfl))) Via.refl e1 (SS.2.2.2.2.2.1.ext X00.2) (g := (mkF m 42 #[.val (.ref a), .val (.int ((p1 <<< ((1 : Int32) &&& 31)) + (1 : Int32)))] [(.int ((bA y) &&& (255 : Int32)))])) rfl (hb hby d23_42)
  refine Goes.on (B := T3.setTop (mkF m 45 #[.val (.ref a), .val (.int ((p1 <<< ((1 : Int32) &&& 31)) + (1 : Int32)))] [(.int (0 : Int32)), (.int ((bA y) &&& (255 : Int32)))])) (fun t k => st3 t k) ?_
  refine Goes.on (B := T3.setTop (mkF m 48 #[.val (.ref a), .val (.int ((p1 <<< ((1 : Int32) &&& 31)) + (1 : Int32)))] [(.int ((p1 <<< ((1 : Int32) &&& 31)) + (1 : Int32))), (.ref a), (.int (((bA y) &&& (255 : Int32)) <<< ((0 : Int32) &&& 31)))])) (fun _ k => XS.ishl X3.here hx rfl (hb hby d23_45) rfl (XS.aloadN X3.here hx rfl (hb hby d23_46) rfl rfl  (XS.iloadN X3.here hx rfl (hb hby d23_47) rfl  k))) ?_
  obtain ⟨cl4, Ar4, q4, S4, Nn4, H4, G4⟩ := id AV
  have hin4 : ¬ (((p1 <<< ((1 : Int32) &&& 31)) + (1 : Int32)) < 0 ∨ cl4.slots.size ≤ (((p1 <<< ((1 : Int32) &&& 31)) + (1 : Int32))).toNatClampNeg) := inb_of S4 hi1
  refine Goes.on (B := T3.setTop (mkF m 53 #[.val (.ref a), .val (.int ((p1 <<< ((1 : Int32) &&& 31)) + (1 : Int32)))] [(.int ((bB y) &&& (255 : Int32))), (.int (((bA y) &&& (255 : Int32)) <<< ((0 : Int32) &&& 31)))])) (fun _ k => X3.baloadBytes hx (j := ((p1 <<< ((1 : Int32) &&& 31)) + (1 : Int32))) (v := (.int (bB y))) (by rw [e3]; exact Ar4.1) (State.isArrayOf_alike hZ.alike Ar4.2.1) Ar4.2.2 hin4 (H4.at hin4 ha1) (g := (mkF m 48 #[.val (.ref a), .val (.int ((p1 <<< ((1 : Int32) &&& 31)) + (1 : Int32)))] [(.int ((p1 <<< ((1 : Int32) &&& 31)) + (1 : Int32))), (.ref a), (.int (((bA y) &&& (255 : Int32)) <<< ((0 : Int32) &&& 31)))])) rfl rfl (hb hby d23_48) _ (XS.sipush X3.here hx rfl (hb hby d23_49) (XS.iand X3.here hx rfl (hb hby d23_52) rfl k))) ?_
  obtain ⟨T5, X5, e5, st5⟩ := getS2 X3 hx hZ hown (host := "") (Or.inl (hw _ (om 105 rfl))) Via.refl e3 (SS.2.2.2.2.2.2.ext X00.2) (g := (mkF m 53 #[.val (.ref a), .val (.int ((p1 <<< ((1 : Int32) &&& 31)) + (1 : Int32)))] [(.int ((bB y) &&& (255 : Int32))), (.int (((bA y) &&& (255 : Int32)) <<< ((0 : Int32) &&& 31)))])) rfl (hb hby d23_53)
  refine Goes.on (B := T5.setTop (mkF m 56 #[.val (.ref a), .val (.int ((p1 <<< ((1 : Int32) &&& 31)) + (1 : Int32)))] [(.int (8 : Int32)), (.int ((bB y) &&& (255 : Int32))), (.int (((bA y) &&& (255 : Int32)) <<< ((0 : Int32) &&& 31)))])) (fun t k => st5 t k) ?_
  refine Goes.on (B := T5.setTop (mkF m 59 #[.val (.ref a), .val (.int ((p1 <<< ((1 : Int32) &&& 31)) + (1 : Int32)))] [(.int (((((bA y) &&& (255 : Int32)) <<< ((0 : Int32) &&& 31)) ||| (((bB y) &&& (255 : Int32)) <<< ((8 : Int32) &&& 31))).toUInt32.toUInt16.toUInt32.toInt32))])) (fun _ k => XS.ishl X5.here hx rfl (hb hby d23_56) rfl (XS.ior X5.here hx rfl (hb hby d23_57) rfl (XS.i2c X5.here hx rfl (hb hby d23_58) rfl k))) ?_
  obtain ⟨fs, hr, hrun, hended, hW, hsame⟩ := X5.leave (v := some (.int (nar .char (((((bA y) &&& (255 : Int32)) <<< ((0 : Int32) &&& 31)) ||| (((bB y) &&& (255 : Int32)) <<< ((8 : Int32) &&& 31))).toUInt32.toUInt16.toUInt32.toInt32)))) (fun h => by rw [Bd.returns] at h; cases h)
  exact Goes.leaf (retN X5 hx (t := .char) Bd.returns (by simp) (hb hby d23_59) hr) hrun hended ⟨_, _, rfl, by show Qgc Z a p1 kA NN vs y GA GB h0 n0 _ T5.heap _; rw [e5]; exact ⟨congrArg (fun q => some (Value.int q)) (own_gc ry), N0, rfl⟩, ⟨_, rfl⟩, hW, hsame.mono (by decide) (by decide)⟩
theorem d24_0 : decode jdk_52_method_83_code 0 = .ok (.iload_n 1, 1) := by decide +kernel
theorem d24_1 : decode jdk_52_method_83_code 1 = .ok (.aload_n 0, 1) := by decide +kernel
theorem d24_2 : decode jdk_52_method_83_code 2 = .ok (.invokestatic 67, 3) := by decide +kernel
theorem d24_5 : decode jdk_52_method_83_code 5 = .ok (.aload_n 0, 1) := by decide +kernel
theorem d24_6 : decode jdk_52_method_83_code 6 = .ok (.iload_n 1, 1) := by decide +kernel
theorem d24_7 : decode jdk_52_method_83_code 7 = .ok (.invokestatic 71, 3) := by decide +kernel
theorem d24_10 : decode jdk_52_method_83_code 10 = .ok (.ireturn, 1) := by decide +kernel
theorem pn_24 : plainName "java/lang/StringUTF16" = true := by first | (simp [plainName, overriddenIn]; done) | decide +kernel
theorem pd_24__I_B_V : parseMethodDescriptor "(I[B)V" = some ⟨[.int, (.array .byte)], none⟩ := by decide +kernel
theorem pd_24___BI_C : parseMethodDescriptor "([BI)C" = some ⟨[(.array .byte), .int], some .char⟩ := by decide +kernel
theorem ef_ua (m : MethodId) (x0 : Addr) (x1 : Int32) : entryFrame m #[(.ref x0), (.int x1)] 2 = mkF m 0 #[.val (.ref x0), .val (.int x1)] [] := by first | (simp [entryFrame, mkF, argsToLocals, Value.category]; done) | rfl
def Qua (Z : State) (a : Addr) (p1 : Int32) (kA : ClassId) (NN : Int32) (vs : List Value) (y : Int32) (GA : Int32) (GB : Value) (h0 : Heap) (n0 : Nat) (v : Option Value) (h : Heap) (L : List Loc) : Prop := v = some (.int y) ∧ Fr n0 L ∧ h = h0
set_option maxRecDepth 65536 in
set_option maxHeartbeats 40000000 in
theorem rmua (l : Launch) (Z : State) (a0 : Array Value) (hw : ∀ d ∈ tables_1, d.before a0 Z = true) (ws : List Jvm.Cond) (a : Addr) (p1 : Int32) (kA : ClassId) (NN : Int32) (vs : List Value) (y : Int32) (GA : Int32) (GB : Value) (h0 : Heap) (n0 : Nat) (Z0 : n0 ≤ h0.size) (SS : own_St Z GA GB) (X00 : Old Z n0 h0) (AV : Arv Z h0 a kA .byte NN vs (.int (0 : Int32))) (hi0 : ¬ (p1 <<< ((1 : Int32) &&& 31)) < 0 ∧ (p1 <<< ((1 : Int32) &&& 31)) < NN) (hi1 : ¬ ((p1 <<< ((1 : Int32) &&& 31)) + (1 : Int32)) < 0 ∧ ((p1 <<< ((1 : Int32) &&& 31)) + (1 : Int32)) < NN) (ha0 : vs.getD ((p1 <<< ((1 : Int32) &&& 31))).toNatClampNeg (.int (0 : Int32)) = (.int (bA y))) (ha1 : vs.getD (((p1 <<< ((1 : Int32) &&& 31)) + (1 : Int32))).toNatClampNeg (.int (0 : Int32)) = (.int (bB y))) (ry : own_rg y) (q1 : ¬ p1 < (0 : Int32)) (q2 : p1 < (NN >>> ((1 : Int32) &&& 31))) :
    MetFree l (⟨"java/lang/StringUTF16", "charAt", "([BI)C"⟩ : MethodName) (head1 (Jvm.Cond.code (⟨"java/lang/StringUTF16", "charAt", "([BI)C"⟩ : MethodName) jdk_52_method_83_code 2 (some .char) :: ws) ({ frames := 3, cells := 0, slots := 0, locals := 40 } : Room)) (fun aa U => aa = #[(.ref a), (.int p1)] ∧ Z.Warmed39 U.vm ∧ U.heap = h0) (fun _ _ _ _ _ => True) (fun _ U oo U' => ∃ vv LL, oo = .returned vv ∧ Qua Z a p1 kA NN vs y GA GB h0 n0 vv U'.heap LL ∧ FrameEnd U oo U' LL ({ frames := 3, cells := 0, slots := 0, locals := 40 } : Room).cells ({ frames := 3, cells := 0, slots := 0, locals := 40 } : Room).slots) := by
  refine MetFree.of_bodySF (plainFor_of_name pn_24) hisR ?_
  intro p e s m args below meth c s₁ Bd hml0 hP hK
  obtain ⟨rfl, hZ, hh⟩ := hP
  have hx := Bd.exec
  have hby := Bd.bytes
  have hml : c.maxLocals = 2 := hml0
  have hown : s.vm.findClass "java/lang/StringUTF16" = some m.cls := findClass_of_methodNamed Bd.named
  have hnm := (name_of_methodNamed Bd.named Bd.method).1
  have X0 : Stand p l e ({ frames := 3, cells := 0, slots := 0, locals := 40 } : Room) s m #[(.ref a), (.int p1)] below meth c s₁ [] 0 0 := Stand.of_body Bd
  have e0 : s₁.heap = h0 := by rw [← hh, Bd.state]; rfl
  have N0 := Fr.nil n0
  show Goes p e below _ (s₁.setTop (entryFrame m #[(.ref a), (.int p1)] 2))
  refine Goes.on (B := s₁.setTop (mkF m 0 #[.val (.ref a), .val (.int p1)] [])) (fun t k => castTop (ef_ua m a p1) k) ?_
  refine Goes.on (B := s₁.setTop (mkF m 2 #[.val (.ref a), .val (.int p1)] [(.ref a), (.int p1)])) (fun _ k => XS.iloadN X0.here hx rfl (hb hby d24_0) rfl  (XS.aloadN X0.here hx rfl (hb hby d24_1) rfl rfl  k)) ?_
  obtain ⟨_, _, ⟨T1, L1, k1, n1⟩, -, X1, ⟨Lc1, hQ1, l1, y1, z1⟩, st1⟩ := Jvm.LawKit.callS X0 hx (y := (⟨"java/lang/StringUTF16", "checkIndex", "(I[B)V"⟩ : MethodName)) hown (mvT hZ (hw _ (om 112 rfl))) (mvT hZ (hw _ (om 113 rfl))) (mvT hZ (hw _ (om 51 rfl))) (mvT hZ (hw _ (om 114 rfl))) (by decide) (backOf (W := 0) (rmuc l Z a0 hw [] p1 a kA NN vs GA GB h0 n0 Z0 SS X00 AV q1 q2) hZ (hw _ (om 114 rfl)) (hw _ (om 51 rfl)) (by decide) (by decide)) (g := (mkF m 2 #[.val (.ref a), .val (.int p1)] [(.ref a), (.int p1)])) rfl (by rw [hml]; rfl) (argsL := [(.int p1), (.ref a)]) (rest := []) (lenOf pd_24__I_B_V rfl) rfl (by show 2 * 0 + _ ≤ _; exact Nat.le_of_eq rfl) (hb hby d24_2) (fun _ _ => ⟨rfl, e0, (by decide : 0 + 0 ≤ _), (by decide : 0 + 0 ≤ _)⟩)
  dsimp only [Pt.U, Pt.locs, Pt.cells, Pt.slots] at X1 l1 y1 z1 st1 hQ1
  subst l1 y1 z1
  obtain ⟨rfl, Nq1, eh1⟩ := hQ1
  have N1 := Fr.app N0 Nq1
  refine Goes.on (B := T1.setTop (mkF m 5 #[.val (.ref a), .val (.int p1)] [])) (fun t k => st1 t k) ?_
  refine Goes.on (B := T1.setTop (mkF m 7 #[.val (.ref a), .val (.int p1)] [(.int p1), (.ref a)])) (fun _ k => XS.aloadN X1.here hx rfl (hb hby d24_5) rfl rfl  (XS.iloadN X1.here hx rfl (hb hby d24_6) rfl  k)) ?_
  obtain ⟨_, _, ⟨T2, L2, k2, n2⟩, -, X2, ⟨Lc2, hQ2, l2, y2, z2⟩, st2⟩ := Jvm.LawKit.callS X1 hx (y := (⟨"java/lang/StringUTF16", "getChar", "([BI)C"⟩ : MethodName)) hown (mvT hZ (hw _ (om 106 rfl))) (mvT hZ (hw _ (om 107 rfl))) (mvT hZ (hw _ (om 51 rfl))) (mvT hZ (hw _ (om 108 rfl))) (by decide) (backOf (W := 0) (rmgc l Z a0 hw [] a p1 kA NN vs y GA GB h0 n0 Z0 SS X00 AV hi0 hi1 ha0 ha1 ry) hZ (hw _ (om 108 rfl)) (hw _ (om 51 rfl)) (by decide) (by decide)) (g := (mkF m 7 #[.val (.ref a), .val (.int p1)] [(.int p1), (.ref a)])) rfl (by rw [hml]; rfl) (argsL := [(.ref a), (.int p1)]) (rest := []) (lenOf pd_24___BI_C rfl) rfl (by show 2 * 0 + _ ≤ _; exact Nat.le_of_eq rfl) (hb hby d24_7) (fun _ _ => ⟨rfl, eh1, (by decide : 0 + 0 ≤ _), (by decide : 0 + 0 ≤ _)⟩)
  dsimp only [Pt.U, Pt.locs, Pt.cells, Pt.slots] at X2 l2 y2 z2 st2 hQ2
  subst l2 y2 z2
  obtain ⟨rfl, Nq2, eh2⟩ := hQ2
  have N2 := Fr.app N1 Nq2
  refine Goes.on (B := T2.setTop (mkF m 10 #[.val (.ref a), .val (.int p1)] [(.int y)])) (fun t k => st2 t k) ?_
  obtain ⟨fs, hr, hrun, hended, hW, hsame⟩ := X2.leave (v := some (.int (nar .char y))) (fun h => by rw [Bd.returns] at h; cases h)
  exact Goes.leaf (retN X2 hx (t := .char) Bd.returns (by simp) (hb hby d24_10) hr) hrun hended ⟨_, _, rfl, by show Qua Z a p1 kA NN vs y GA GB h0 n0 _ T2.heap _; rw [eh2]; exact ⟨congrArg (fun q => some (Value.int q)) (own_narc ry), N2, rfl⟩, ⟨_, rfl⟩, hW, hsame.mono (by decide) (by decide)⟩
theorem d13_0 : decode jdk_42_method_56_code 0 = .ok (.aload_n 0, 1) := by decide +kernel
theorem d13_1 : decode jdk_42_method_56_code 1 = .ok (.invokevirtual 492, 3) := by decide +kernel
theorem d13_4 : decode jdk_42_method_56_code 4 = .ok (.ifCond .eq 12, 3) := by decide +kernel
theorem d13_16 : decode jdk_42_method_56_code 16 = .ok (.aload_n 0, 1) := by decide +kernel
theorem d13_17 : decode jdk_42_method_56_code 17 = .ok (.getfield 9, 3) := by decide +kernel
theorem d13_20 : decode jdk_42_method_56_code 20 = .ok (.iload_n 1, 1) := by decide +kernel
theorem d13_21 : decode jdk_42_method_56_code 21 = .ok (.invokestatic 498, 3) := by decide +kernel
theorem d13_24 : decode jdk_42_method_56_code 24 = .ok (.ireturn, 1) := by decide +kernel
theorem pn_13 : plainName "java/lang/String" = true := by first | (simp [plainName, overriddenIn]; done) | decide +kernel
theorem pd_13___Z : parseMethodDescriptor "()Z" = some ⟨[], some .boolean⟩ := by decide +kernel
theorem pd_13___BI_C : parseMethodDescriptor "([BI)C" = some ⟨[(.array .byte), .int], some .char⟩ := by decide +kernel
theorem ef_ca (m : MethodId) (x0 : Addr) (x1 : Int32) : entryFrame m #[(.ref x0), (.int x1)] 2 = mkF m 0 #[.val (.ref x0), .val (.int x1)] [] := by first | (simp [entryFrame, mkF, argsToLocals, Value.category]; done) | rfl
def Qca (Z : State) (a : Addr) (p1 : Int32) (tv : Addr) (kA : ClassId) (NN : Int32) (vs : List Value) (y : Int32) (GA : Int32) (GB : Value) (h0 : Heap) (n0 : Nat) (v : Option Value) (h : Heap) (L : List Loc) : Prop := v = some (.int y) ∧ Fr n0 L ∧ h = h0
set_option maxRecDepth 65536 in
set_option maxHeartbeats 40000000 in
theorem rmca (l : Launch) (Z : State) (a0 : Array Value) (hw : ∀ d ∈ tables_1, d.before a0 Z = true) (ws : List Jvm.Cond) (a : Addr) (p1 : Int32) (tv : Addr) (kA : ClassId) (NN : Int32) (vs : List Value) (y : Int32) (GA : Int32) (GB : Value) (h0 : Heap) (n0 : Nat) (Z0 : n0 ≤ h0.size) (SS : own_St Z GA GB) (X00 : Old Z n0 h0) (EX : Exa Z h0 a "java/lang/String") (FC : Fld Z h0 a "java/lang/String" "coder" "B" (.int (1 : Int32))) (FV : Fld Z h0 a "java/lang/String" "value" "[B" (.ref tv)) (AV : Arv Z h0 tv kA .byte NN vs (.int (0 : Int32))) (hi0 : ¬ (p1 <<< ((1 : Int32) &&& 31)) < 0 ∧ (p1 <<< ((1 : Int32) &&& 31)) < NN) (hi1 : ¬ ((p1 <<< ((1 : Int32) &&& 31)) + (1 : Int32)) < 0 ∧ ((p1 <<< ((1 : Int32) &&& 31)) + (1 : Int32)) < NN) (ha0 : vs.getD ((p1 <<< ((1 : Int32) &&& 31))).toNatClampNeg (.int (0 : Int32)) = (.int (bA y))) (ha1 : vs.getD (((p1 <<< ((1 : Int32) &&& 31)) + (1 : Int32))).toNatClampNeg (.int (0 : Int32)) = (.int (bB y))) (ry : own_rg y) (q1 : ¬ p1 < (0 : Int32)) (q2 : p1 < (NN >>> ((1 : Int32) &&& 31))) :
    MetFree l (⟨"java/lang/String", "charAt", "(I)C"⟩ : MethodName) (head1 (Jvm.Cond.code (⟨"java/lang/String", "charAt", "(I)C"⟩ : MethodName) jdk_42_method_56_code 2 (some .char) :: ws) ({ frames := 4, cells := 0, slots := 0, locals := 53 } : Room)) (fun aa U => aa = #[(.ref a), (.int p1)] ∧ Z.Warmed39 U.vm ∧ U.heap = h0) (fun _ _ _ _ _ => True) (fun _ U oo U' => ∃ vv LL, oo = .returned vv ∧ Qca Z a p1 tv kA NN vs y GA GB h0 n0 vv U'.heap LL ∧ FrameEnd U oo U' LL ({ frames := 4, cells := 0, slots := 0, locals := 53 } : Room).cells ({ frames := 4, cells := 0, slots := 0, locals := 53 } : Room).slots) := by
  refine MetFree.of_bodySF (plainFor_of_name pn_13) hisR ?_
  intro p e s m args below meth c s₁ Bd hml0 hP hK
  obtain ⟨rfl, hZ, hh⟩ := hP
  have hx := Bd.exec
  have hby := Bd.bytes
  have hml : c.maxLocals = 2 := hml0
  have hown : s.vm.findClass "java/lang/String" = some m.cls := findClass_of_methodNamed Bd.named
  have hnm := (name_of_methodNamed Bd.named Bd.method).1
  have X0 : Stand p l e ({ frames := 4, cells := 0, slots := 0, locals := 53 } : Room) s m #[(.ref a), (.int p1)] below meth c s₁ [] 0 0 := Stand.of_body Bd
  have e0 : s₁.heap = h0 := by rw [← hh, Bd.state]; rfl
  have N0 := Fr.nil n0
  show Goes p e below _ (s₁.setTop (entryFrame m #[(.ref a), (.int p1)] 2))
  refine Goes.on (B := s₁.setTop (mkF m 0 #[.val (.ref a), .val (.int p1)] [])) (fun t k => castTop (ef_ca m a p1) k) ?_
  refine Goes.on (B := s₁.setTop (mkF m 1 #[.val (.ref a), .val (.int p1)] [(.ref a)])) (fun _ k => XS.aloadN X0.here hx rfl (hb hby d13_0) rfl rfl  k) ?_
  obtain ⟨cq1, kq1, q1a, q1b, q1c⟩ := isOf hZ e0 EX
  obtain ⟨_, _, ⟨T1, L1, k1, n1⟩, -, X1, ⟨Lc1, hQ1, l1, y1, z1⟩, st1⟩ := X0.virtualBack hx (y := (⟨"java/lang/String", "isLatin1", "()Z"⟩ : MethodName)) (z := (⟨"java/lang/String", "isLatin1", "()Z"⟩ : MethodName)) hown (mvT hZ (hw _ (om 70 rfl))) (mvT hZ (hw _ (om 71 rfl))) (notFace_of_selects (args := #[]) (mvT hZ (hw _ (om 73 rfl)))) (mvT hZ (hw _ (om 73 rfl))) (mvT hZ (hw _ (om 72 rfl))) (by decide) (backOf (W := 0) (rmil l Z a0 hw [] a GA GB h0 n0 Z0 SS X00 FC) hZ (hw _ (om 74 rfl)) (hw _ (om 10 rfl)) (by decide) (by decide)) q1a q1c (g := (mkF m 1 #[.val (.ref a), .val (.int p1)] [(.ref a)])) rfl (by rw [hml]; rfl) (Steps.refl _) (argsL := []) (rest := []) (lenOf pd_13___Z rfl) rfl (by show 2 * 0 + _ ≤ _; exact Nat.le_of_eq rfl) (hb hby d13_1) (fun _ _ => ⟨rfl, e0, (by decide : 0 + 0 ≤ _), (by decide : 0 + 0 ≤ _)⟩)
  dsimp only [Pt.U, Pt.locs, Pt.cells, Pt.slots] at X1 l1 y1 z1 st1 hQ1
  subst l1 y1 z1
  obtain ⟨rfl, Nq1, eh1⟩ := hQ1
  have N1 := Fr.app N0 Nq1
  refine Goes.on (B := T1.setTop (mkF m 4 #[.val (.ref a), .val (.int p1)] [(.int (0 : Int32))])) (fun t k => st1.trans k) ?_
  refine Goes.on (B := T1.setTop (mkF m 17 #[.val (.ref a), .val (.int p1)] [(.ref a)])) (fun _ k => XS.ifYes X1.here hx rfl (pc0 := 4) (pc' := 16) rfl (hb hby d13_4) rfl ((if0 _ _).trans (teq (by decide)).1) (by decide) (by decide) (XS.aloadN X1.here hx rfl (hb hby d13_16) rfl rfl  k)) ?_
  obtain ⟨T2, X2, e2, st2⟩ := getF X1 hx hZ hown (host := "") (Or.inl (hw _ (om 28 rfl))) Via.refl eh1 FV (g := (mkF m 17 #[.val (.ref a), .val (.int p1)] [(.ref a)])) rfl rfl (hb hby d13_17)
  refine Goes.on (B := T2.setTop (mkF m 20 #[.val (.ref a), .val (.int p1)] [(.ref tv)])) (fun t k => st2 t k) ?_
  refine Goes.on (B := T2.setTop (mkF m 21 #[.val (.ref a), .val (.int p1)] [(.int p1), (.ref tv)])) (fun _ k => XS.iloadN X2.here hx rfl (hb hby d13_20) rfl  k) ?_
  obtain ⟨_, _, ⟨T3, L3, k3, n3⟩, -, X3, ⟨Lc3, hQ3, l3, y3, z3⟩, st3⟩ := Jvm.LawKit.callS X2 hx (y := (⟨"java/lang/StringUTF16", "charAt", "([BI)C"⟩ : MethodName)) hown (mvT hZ (hw _ (om 109 rfl))) (mvT hZ (hw _ (om 110 rfl))) (mvT hZ (hw _ (om 51 rfl))) (mvT hZ (hw _ (om 111 rfl))) (by decide) (backOf (W := 0) (rmua l Z a0 hw [] tv p1 kA NN vs y GA GB h0 n0 Z0 SS X00 AV hi0 hi1 ha0 ha1 ry q1 q2) hZ (hw _ (om 111 rfl)) (hw _ (om 51 rfl)) (by decide) (by decide)) (g := (mkF m 21 #[.val (.ref a), .val (.int p1)] [(.int p1), (.ref tv)])) rfl (by rw [hml]; rfl) (argsL := [(.ref tv), (.int p1)]) (rest := []) (lenOf pd_13___BI_C rfl) rfl (by show 2 * 0 + _ ≤ _; exact Nat.le_of_eq rfl) (hb hby d13_21) (fun _ _ => ⟨rfl, e2, (by decide : 0 + 0 ≤ _), (by decide : 0 + 0 ≤ _)⟩)
  dsimp only [Pt.U, Pt.locs, Pt.cells, Pt.slots] at X3 l3 y3 z3 st3 hQ3
  subst l3 y3 z3
  obtain ⟨rfl, Nq3, eh3⟩ := hQ3
  have N3 := Fr.app N1 Nq3
  refine Goes.on (B := T3.setTop (mkF m 24 #[.val (.ref a), .val (.int p1)] [(.int y)])) (fun t k => st3 t k) ?_
  obtain ⟨fs, hr, hrun, hended, hW, hsame⟩ := X3.leave (v := some (.int (nar .char y))) (fun h => by rw [Bd.returns] at h; cases h)
  exact Goes.leaf (retN X3 hx (t := .char) Bd.returns (by simp) (hb hby d13_24) hr) hrun hended ⟨_, _, rfl, by show Qca Z a p1 tv kA NN vs y GA GB h0 n0 _ T3.heap _; rw [eh3]; exact ⟨congrArg (fun q => some (Value.int q)) (own_narc ry), N3, rfl⟩, ⟨_, rfl⟩, hW, hsame.mono (by decide) (by decide)⟩
theorem d7_0 : decode jdk_42_method_54_code 0 = .ok (.aload_n 0, 1) := by decide +kernel
theorem d7_1 : decode jdk_42_method_54_code 1 = .ok (.getfield 9, 3) := by decide +kernel
theorem d7_4 : decode jdk_42_method_54_code 4 = .ok (.arraylength, 1) := by decide +kernel
theorem d7_5 : decode jdk_42_method_54_code 5 = .ok (.aload_n 0, 1) := by decide +kernel
theorem d7_6 : decode jdk_42_method_54_code 6 = .ok (.invokevirtual 335, 3) := by decide +kernel
theorem d7_9 : decode jdk_42_method_54_code 9 = .ok (.ishr, 1) := by decide +kernel
theorem d7_10 : decode jdk_42_method_54_code 10 = .ok (.ireturn, 1) := by decide +kernel
theorem pn_7 : plainName "java/lang/String" = true := by first | (simp [plainName, overriddenIn]; done) | decide +kernel
theorem pd_7___B : parseMethodDescriptor "()B" = some ⟨[], some .byte⟩ := by decide +kernel
theorem ef_sl (m : MethodId) (x0 : Addr) : entryFrame m #[(.ref x0)] 1 = mkF m 0 #[.val (.ref x0)] [] := by first | (simp [entryFrame, mkF, argsToLocals, Value.category]; done) | rfl
def Qsl (Z : State) (a : Addr) (tv : Addr) (kA : ClassId) (NN : Int32) (vs : List Value) (GA : Int32) (GB : Value) (h0 : Heap) (n0 : Nat) (v : Option Value) (h : Heap) (L : List Loc) : Prop := v = some (.int (NN >>> ((1 : Int32) &&& 31))) ∧ Fr n0 L ∧ h = h0
set_option maxRecDepth 65536 in
set_option maxHeartbeats 40000000 in
theorem rmsl (l : Launch) (Z : State) (a0 : Array Value) (hw : ∀ d ∈ tables_1, d.before a0 Z = true) (ws : List Jvm.Cond) (a : Addr) (tv : Addr) (kA : ClassId) (NN : Int32) (vs : List Value) (GA : Int32) (GB : Value) (h0 : Heap) (n0 : Nat) (Z0 : n0 ≤ h0.size) (SS : own_St Z GA GB) (X00 : Old Z n0 h0) (EX : Exa Z h0 a "java/lang/String") (FC : Fld Z h0 a "java/lang/String" "coder" "B" (.int (1 : Int32))) (FV : Fld Z h0 a "java/lang/String" "value" "[B" (.ref tv)) (AV : Arv Z h0 tv kA .byte NN vs (.int (0 : Int32))) :
    MetFree l (⟨"java/lang/String", "length", "()I"⟩ : MethodName) (head1 (Jvm.Cond.code (⟨"java/lang/String", "length", "()I"⟩ : MethodName) jdk_42_method_54_code 1 (some .int) :: ws) ({ frames := 1, cells := 0, slots := 0, locals := 13 } : Room)) (fun aa U => aa = #[(.ref a)] ∧ Z.Warmed39 U.vm ∧ U.heap = h0) (fun _ _ _ _ _ => True) (fun _ U oo U' => ∃ vv LL, oo = .returned vv ∧ Qsl Z a tv kA NN vs GA GB h0 n0 vv U'.heap LL ∧ FrameEnd U oo U' LL ({ frames := 1, cells := 0, slots := 0, locals := 13 } : Room).cells ({ frames := 1, cells := 0, slots := 0, locals := 13 } : Room).slots) := by
  refine MetFree.of_bodySF (plainFor_of_name pn_7) hisR ?_
  intro p e s m args below meth c s₁ Bd hml0 hP hK
  obtain ⟨rfl, hZ, hh⟩ := hP
  have hx := Bd.exec
  have hby := Bd.bytes
  have hml : c.maxLocals = 1 := hml0
  have hown : s.vm.findClass "java/lang/String" = some m.cls := findClass_of_methodNamed Bd.named
  have hnm := (name_of_methodNamed Bd.named Bd.method).1
  have X0 : Stand p l e ({ frames := 1, cells := 0, slots := 0, locals := 13 } : Room) s m #[(.ref a)] below meth c s₁ [] 0 0 := Stand.of_body Bd
  have e0 : s₁.heap = h0 := by rw [← hh, Bd.state]; rfl
  have N0 := Fr.nil n0
  show Goes p e below _ (s₁.setTop (entryFrame m #[(.ref a)] 1))
  refine Goes.on (B := s₁.setTop (mkF m 0 #[.val (.ref a)] [])) (fun t k => castTop (ef_sl m a) k) ?_
  refine Goes.on (B := s₁.setTop (mkF m 1 #[.val (.ref a)] [(.ref a)])) (fun _ k => XS.aloadN X0.here hx rfl (hb hby d7_0) rfl rfl  k) ?_
  obtain ⟨T1, X1, e1, st1⟩ := getF X0 hx hZ hown (host := "") (Or.inl (hw _ (om 28 rfl))) Via.refl e0 FV (g := (mkF m 1 #[.val (.ref a)] [(.ref a)])) rfl rfl (hb hby d7_1)
  refine Goes.on (B := T1.setTop (mkF m 4 #[.val (.ref a)] [(.ref tv)])) (fun t k => st1 t k) ?_
  obtain ⟨cl2, Ar2, -, S2, Nn2, -, -⟩ := id AV
  refine Goes.on (B := T1.setTop (mkF m 5 #[.val (.ref a)] [(.int NN)])) (fun t k => X1.arraylength hx (by rw [e1]; exact Ar2.1) (State.isArrayOf_alike hZ.alike Ar2.2.1) (g := (mkF m 4 #[.val (.ref a)] [(.ref tv)])) rfl rfl (hb hby d7_4) t (by rw [len_of S2 Nn2]; exact k)) ?_
  refine Goes.on (B := T1.setTop (mkF m 6 #[.val (.ref a)] [(.ref a), (.int NN)])) (fun _ k => XS.aloadN X1.here hx rfl (hb hby d7_5) rfl rfl  k) ?_
  obtain ⟨cq3, kq3, q3a, q3b, q3c⟩ := isOf hZ e1 EX
  obtain ⟨_, _, ⟨T3, L3, k3, n3⟩, -, X3, ⟨Lc3, hQ3, l3, y3, z3⟩, st3⟩ := X1.virtualBack hx (y := (⟨"java/lang/String", "coder", "()B"⟩ : MethodName)) (z := (⟨"java/lang/String", "coder", "()B"⟩ : MethodName)) hown (mvT hZ (hw _ (om 43 rfl))) (mvT hZ (hw _ (om 44 rfl))) (notFace_of_selects (args := #[]) (mvT hZ (hw _ (om 46 rfl)))) (mvT hZ (hw _ (om 46 rfl))) (mvT hZ (hw _ (om 45 rfl))) (by decide) (backOf (W := 1) (rmcd l Z a0 hw [] a GA GB h0 n0 Z0 SS X00 FC) hZ (hw _ (om 47 rfl)) (hw _ (om 10 rfl)) (by decide) (by decide)) q3a q3c (g := (mkF m 6 #[.val (.ref a)] [(.ref a), (.int NN)])) rfl (by rw [hml]; rfl) (Steps.refl _) (argsL := []) (rest := [(.int NN)]) (lenOf pd_7___B rfl) rfl (by show 2 * 0 + _ ≤ _; exact Nat.le_of_eq rfl) (hb hby d7_6) (fun _ _ => ⟨rfl, e1, (by decide : 0 + 0 ≤ _), (by decide : 0 + 0 ≤ _)⟩)
  dsimp only [Pt.U, Pt.locs, Pt.cells, Pt.slots] at X3 l3 y3 z3 st3 hQ3
  subst l3 y3 z3
  obtain ⟨rfl, Nq3, eh3⟩ := hQ3
  have N3 := Fr.app N0 Nq3
  refine Goes.on (B := T3.setTop (mkF m 9 #[.val (.ref a)] [(.int (1 : Int32)), (.int NN)])) (fun t k => st3.trans k) ?_
  refine Goes.on (B := T3.setTop (mkF m 10 #[.val (.ref a)] [(.int (NN >>> ((1 : Int32) &&& 31)))])) (fun _ k => XS.ishr X3.here hx rfl (hb hby d7_9) rfl k) ?_
  obtain ⟨fs, hr, hrun, hended, hW, hsame⟩ := X3.leave (v := some (.int (NN >>> ((1 : Int32) &&& 31)))) (fun h => by rw [Bd.returns] at h; cases h)
  exact Goes.leaf (own_retI X3 hx Bd.returns (hb hby d7_10) hr) hrun hended ⟨_, _, rfl, by show Qsl Z a tv kA NN vs GA GB h0 n0 _ T3.heap _; rw [eh3]; exact ⟨rfl, N3, rfl⟩, ⟨_, rfl⟩, hW, hsame.mono (by decide) (by decide)⟩
def own_iw0  : Int32 := (1 : Int32)
def own_iw1 (c0 : Int32) : Int32 := (if (own_ws c0) = (0 : Int32) then (0 : Int32) else (1 : Int32))
def own_iw2 (c0 c1 : Int32) : Int32 := (if (own_ws c0) = (0 : Int32) then (0 : Int32) else (if (own_ws c1) = (0 : Int32) then (0 : Int32) else (1 : Int32)))
def own_iw3 (c0 c1 c2 : Int32) : Int32 := (if (own_ws c0) = (0 : Int32) then (0 : Int32) else (if (own_ws c1) = (0 : Int32) then (0 : Int32) else (if (own_ws c2) = (0 : Int32) then (0 : Int32) else (1 : Int32))))
def own_iw4 (c0 c1 c2 c3 : Int32) : Int32 := (if (own_ws c0) = (0 : Int32) then (0 : Int32) else (if (own_ws c1) = (0 : Int32) then (0 : Int32) else (if (own_ws c2) = (0 : Int32) then (0 : Int32) else (if (own_ws c3) = (0 : Int32) then (0 : Int32) else (1 : Int32)))))
def own_BL (l : Launch) (Z : State) (h0 : Heap) (n0 : Nat) (y : MethodName) (as' : Array Value) (r : Int32) : Prop := ∀ (p : Program) (e : Env) (R : Room) (s : State) (args : Array Value) (below : List Frame) (len W : Nat), Z.Warmed39 s.vm → 5 ≤ R.frames → W + 66 ≤ R.locals →
  Back l R p e below s args y len W (fun P a => a = as' ∧ P.U.heap = h0 ∧ P.cells + 0 ≤ R.cells ∧ P.slots + 0 ≤ R.slots) (fun P _ v B => ∃ L, (v = some (.int r) ∧ Fr n0 L ∧ B.U.heap = h0) ∧ B.locs = P.locs ++ L ∧ B.cells = P.cells + 0 ∧ B.slots = P.slots + 0)
theorem own_up (cs : List Int32) (h : ∀ q ∈ cs, ¬ q < 0 ∧ ¬ (255 : Int32) < q) : ∀ q ∈ cs, ¬ q < 0 ∧ ¬ (65535 : Int32) < q := fun q hq => ⟨(h q hq).1, fun z => (h q hq).2 (by rw [Int32.lt_iff_toInt_lt] at z ⊢; have e1 : (65535 : Int32).toInt = 65535 := rfl; have e2 : (255 : Int32).toInt = 255 := rfl; omega)⟩
theorem own_HL (l : Launch) (Z : State) (a0 : Array Value) (hw : ∀ d ∈ tables_1, d.before a0 Z = true) (a tv : Addr) (kA : ClassId) (GA : Int32) (GB : Value) (h0 : Heap) (n0 : Nat) (SS : own_St Z GA GB) (X00 : Old Z n0 h0) (EX : Exa Z h0 a "java/lang/String") (FC : Fld Z h0 a "java/lang/String" "coder" "B" (.int (0 : Int32))) (FV : Fld Z h0 a "java/lang/String" "value" "[B" (.ref tv)) (cs : List Int32) (hl : cs.length ≤ 4) (AV : Arv Z h0 tv kA .byte (Int32.ofNat cs.length) ((cs.map StrChars.lo8).map Value.int) (.int (0 : Int32))) (hp : ∀ q ∈ cs, ¬ q < 0 ∧ ¬ (255 : Int32) < q) : own_BL l Z h0 n0 (⟨"java/lang/String", "length", "()I"⟩ : MethodName) #[.ref a] (Int32.ofNat cs.length) := fun p e R s args below len W hZ hf hlo => by
  have hwL : ∀ d ∈ StrChars.Road.wordsLen, d.before a0 Z = true := fun d hd => hw d ((by decide +kernel : ∀ d ∈ StrChars.Road.wordsLen, d ∈ tables_1) d hd)
  refine Back.mono (StrChars.Road.lenW hZ hwL (kI := 4) (hw _ (om 9 rfl)) (cs := cs) EX FV FC AV (StrChars.Road.codOf rfl (fun q hq => (hp q hq).2)) (own_up _ hp) (SS.1.ext X00.2) SS.2.1 (by omega) (by omega) (by omega)) (fun _ _ q => q) (fun P a v B hp hq => ?_)
  obtain ⟨L, ⟨q1, rfl, q2⟩, q3⟩ := hq
  exact ⟨[], ⟨q1, Fr.nil _, q2⟩, q3⟩
theorem own_HC (l : Launch) (Z : State) (a0 : Array Value) (hw : ∀ d ∈ tables_1, d.before a0 Z = true) (a tv : Addr) (kA : ClassId) (i : Nat) (j : Int32) (GA : Int32) (GB : Value) (h0 : Heap) (n0 : Nat) (SS : own_St Z GA GB) (X00 : Old Z n0 h0) (EX : Exa Z h0 a "java/lang/String") (FC : Fld Z h0 a "java/lang/String" "coder" "B" (.int (0 : Int32))) (FV : Fld Z h0 a "java/lang/String" "value" "[B" (.ref tv)) (cs : List Int32) (hl : cs.length ≤ 4) (AV : Arv Z h0 tv kA .byte (Int32.ofNat cs.length) ((cs.map StrChars.lo8).map Value.int) (.int (0 : Int32))) (hp : ∀ q ∈ cs, ¬ q < 0 ∧ ¬ (255 : Int32) < q) (hi : i < cs.length) (hj : j = Int32.ofNat i) : own_BL l Z h0 n0 (⟨"java/lang/String", "charAt", "(I)C"⟩ : MethodName) #[.ref a, .int j] (cs.getD i 0) := fun p e R s args below len W hZ hf hlo => by
  have hwC : ∀ d ∈ StrChars.Road.wordsChN, d.before a0 Z = true := fun d hd => hw d ((by decide +kernel : ∀ d ∈ StrChars.Road.wordsChN, d ∈ tables_1) d hd)
  refine Back.mono (StrChars.Road.chN hZ hwC (kI := 4) (hw _ (om 9 rfl)) (cs := cs) (i := i) EX FV FC AV (StrChars.Road.codOf rfl (fun q hq => (hp q hq).2)) (own_up _ hp) (SS.1.ext X00.2) SS.2.1 (SS.2.2.1.ext X00.2) SS.2.2.2.1 (by omega) hi hj (by omega) (by omega)) (fun _ _ q => q) (fun P a v B hp hq => ?_)
  obtain ⟨L, ⟨q1, rfl, q2⟩, q3⟩ := hq
  exact ⟨[], ⟨q1, Fr.nil _, q2⟩, q3⟩
theorem own_WL (l : Launch) (Z : State) (a0 : Array Value) (hw : ∀ d ∈ tables_1, d.before a0 Z = true) (a tv : Addr) (kA : ClassId) (NN : Int32) (vs : List Value) (GA : Int32) (GB : Value) (h0 : Heap) (n0 : Nat) (Z0 : n0 ≤ h0.size) (SS : own_St Z GA GB) (X00 : Old Z n0 h0) (EX : Exa Z h0 a "java/lang/String") (FC : Fld Z h0 a "java/lang/String" "coder" "B" (.int (1 : Int32))) (FV : Fld Z h0 a "java/lang/String" "value" "[B" (.ref tv)) (AV : Arv Z h0 tv kA .byte NN vs (.int (0 : Int32))) : own_BL l Z h0 n0 (⟨"java/lang/String", "length", "()I"⟩ : MethodName) #[.ref a] (NN >>> ((1 : Int32) &&& 31)) := fun p e R s args below len W hZ hf hlo =>
  backOf (rmsl l Z a0 hw [] a tv kA NN vs GA GB h0 n0 Z0 SS X00 EX FC FV AV) hZ (hw _ (om 42 rfl)) (hw _ (om 10 rfl)) (by show 1 + 1 ≤ _; omega) (by show W + (1 + 11) + 13 ≤ _; omega)
theorem own_WC (l : Launch) (Z : State) (a0 : Array Value) (hw : ∀ d ∈ tables_1, d.before a0 Z = true) (a tv : Addr) (kA : ClassId) (NN : Int32) (vs : List Value) (p1 y : Int32) (GA : Int32) (GB : Value) (h0 : Heap) (n0 : Nat) (Z0 : n0 ≤ h0.size) (SS : own_St Z GA GB) (X00 : Old Z n0 h0) (EX : Exa Z h0 a "java/lang/String") (FC : Fld Z h0 a "java/lang/String" "coder" "B" (.int (1 : Int32))) (FV : Fld Z h0 a "java/lang/String" "value" "[B" (.ref tv)) (AV : Arv Z h0 tv kA .byte NN vs (.int (0 : Int32))) (hi0 : ¬ (p1 <<< ((1 : Int32) &&& 31)) < 0 ∧ (p1 <<< ((1 : Int32) &&& 31)) < NN) (hi1 : ¬ ((p1 <<< ((1 : Int32) &&& 31)) + (1 : Int32)) < 0 ∧ ((p1 <<< ((1 : Int32) &&& 31)) + (1 : Int32)) < NN) (ha0 : vs.getD ((p1 <<< ((1 : Int32) &&& 31))).toNatClampNeg (.int (0 : Int32)) = (.int (bA y))) (ha1 : vs.getD (((p1 <<< ((1 : Int32) &&& 31)) + (1 : Int32))).toNatClampNeg (.int (0 : Int32)) = (.int (bB y))) (ry : own_rg y) (q1 : ¬ p1 < (0 : Int32)) (q2 : p1 < (NN >>> ((1 : Int32) &&& 31))) : own_BL l Z h0 n0 (⟨"java/lang/String", "charAt", "(I)C"⟩ : MethodName) #[.ref a, .int p1] y := fun p e R s args below len W hZ hf hlo =>
  backOf (rmca l Z a0 hw [] a p1 tv kA NN vs y GA GB h0 n0 Z0 SS X00 EX FC FV AV hi0 hi1 ha0 ha1 ry q1 q2) hZ (hw _ (om 69 rfl)) (hw _ (om 10 rfl)) (by show 4 + 1 ≤ _; omega) (by show W + (2 + 11) + 53 ≤ _; omega)
theorem d6_0 : decode prog_97_method_2_code 0 = .ok (.iconst 0, 1) := by decide +kernel
theorem d6_1 : decode prog_97_method_2_code 1 = .ok (.istore_n 1, 1) := by decide +kernel
theorem d6_2 : decode prog_97_method_2_code 2 = .ok (.iload_n 1, 1) := by decide +kernel
theorem d6_3 : decode prog_97_method_2_code 3 = .ok (.aload_n 0, 1) := by decide +kernel
theorem d6_4 : decode prog_97_method_2_code 4 = .ok (.invokeinterface 13 1, 5) := by decide +kernel
theorem d6_9 : decode prog_97_method_2_code 9 = .ok (.if_icmp .ge 24, 3) := by decide +kernel
theorem d6_33 : decode prog_97_method_2_code 33 = .ok (.iconst 1, 1) := by decide +kernel
theorem d6_34 : decode prog_97_method_2_code 34 = .ok (.ireturn, 1) := by decide +kernel
theorem pn_6 : plainName "com/example/heirloom_archive/heirloomarchive/model/Text" = true := by first | (simp [plainName, overriddenIn]; done) | decide +kernel
theorem pd_6___I : parseMethodDescriptor "()I" = some ⟨[], some .int⟩ := by decide +kernel
theorem ef_iw0 (m : MethodId) (x0 : Addr) : entryFrame m #[(.ref x0)] 2 = mkF m 0 #[.val (.ref x0), .unset] [] := by first | (simp [entryFrame, mkF, argsToLocals, Value.category]; done) | rfl
def Qiw0 (Z : State) (a : Addr)  (h0 : Heap) (n0 : Nat) (v : Option Value) (h : Heap) (L : List Loc) : Prop := v = some (.int (own_iw0 )) ∧ Fr n0 L ∧ h = h0
set_option maxRecDepth 65536 in
set_option maxHeartbeats 40000000 in
theorem rmiw0 (l : Launch) (Z : State) (a0 : Array Value) (hw : ∀ d ∈ tables_1, d.before a0 Z = true) (ws : List Jvm.Cond) (a : Addr)  (h0 : Heap) (n0 : Nat) (Z0 : n0 ≤ h0.size) (EX : Exa Z h0 a "java/lang/String") (HL : own_BL l Z h0 n0 (⟨"java/lang/String", "length", "()I"⟩ : MethodName) #[.ref a] (0 : Int32))  :
    MetFree l (⟨"com/example/heirloom_archive/heirloomarchive/model/Text", "isWhiteSpace", "(Ljava/lang/CharSequence;)Z"⟩ : MethodName) (head1 (Jvm.Cond.code (⟨"com/example/heirloom_archive/heirloomarchive/model/Text", "isWhiteSpace", "(Ljava/lang/CharSequence;)Z"⟩ : MethodName) prog_97_method_2_code 2 (some .boolean) :: ws) ({ frames := 6, cells := 0, slots := 0, locals := 80 } : Room)) (fun aa U => aa = #[(.ref a)] ∧ Z.Warmed39 U.vm ∧ U.heap = h0) (fun _ _ _ _ _ => True) (fun _ U oo U' => ∃ vv LL, oo = .returned vv ∧ Qiw0 Z a h0 n0 vv U'.heap LL ∧ FrameEnd U oo U' LL ({ frames := 6, cells := 0, slots := 0, locals := 80 } : Room).cells ({ frames := 6, cells := 0, slots := 0, locals := 80 } : Room).slots) := by
  refine MetFree.of_bodySF (plainFor_of_name pn_6) hisR ?_
  intro p e s m args below meth c s₁ Bd hml0 hP hK
  obtain ⟨rfl, hZ, hh⟩ := hP
  have hx := Bd.exec
  have hby := Bd.bytes
  have hml : c.maxLocals = 2 := hml0
  have hown : s.vm.findClass "com/example/heirloom_archive/heirloomarchive/model/Text" = some m.cls := findClass_of_methodNamed Bd.named
  have hnm := (name_of_methodNamed Bd.named Bd.method).1
  have X0 : Stand p l e ({ frames := 6, cells := 0, slots := 0, locals := 80 } : Room) s m #[(.ref a)] below meth c s₁ [] 0 0 := Stand.of_body Bd
  have e0 : s₁.heap = h0 := by rw [← hh, Bd.state]; rfl
  have N0 := Fr.nil n0
  show Goes p e below _ (s₁.setTop (entryFrame m #[(.ref a)] 2))
  refine Goes.on (B := s₁.setTop (mkF m 0 #[.val (.ref a), .unset] [])) (fun t k => castTop (ef_iw0 m a) k) ?_
  refine Goes.on (B := s₁.setTop (mkF m 4 #[.val (.ref a), .val (.int (0 : Int32))] [(.ref a), (.int (0 : Int32))])) (fun _ k => XS.iconst X0.here hx rfl (hb hby d6_0) (XS.istoreN X0.here hx rfl (hb hby d6_1) rfl (l' := #[.val (.ref a), .val (.int (0 : Int32))]) rfl (XS.iloadN X0.here hx rfl (hb hby d6_2) rfl  (XS.aloadN X0.here hx rfl (hb hby d6_3) rfl rfl  k)))) ?_
  obtain ⟨cq1, kq1, q1a, q1b, q1c⟩ := isOf hZ e0 EX
  obtain ⟨_, _, ⟨T1, L1, k1, n1⟩, -, X1, ⟨Lc1, hQ1, l1, y1, z1⟩, st1⟩ := X0.interfaceBack hx (xi := (⟨"java/lang/CharSequence", "length", "()I"⟩ : MethodName)) (y := (⟨"java/lang/String", "length", "()I"⟩ : MethodName)) hown (mvT hZ (hw _ (om 34 rfl))) (mvT hZ (hw _ (om 35 rfl))) (mvT hZ (hw _ (om 36 rfl))) (mvT hZ (hw _ (om 37 rfl))) (mvT hZ (hw _ (om 38 rfl))) (mvT hZ (hw _ (om 39 rfl))) (mvT hZ (hw _ (om 40 rfl))) (mvT hZ (hw _ (om 41 rfl))) (by decide) (HL _ _ _ _ _ _ _ 1 hZ (by decide) (by decide)) q1a q1b q1c (g := (mkF m 4 #[.val (.ref a), .val (.int (0 : Int32))] [(.ref a), (.int (0 : Int32))])) rfl (by rw [hml]; rfl) (Steps.refl _) (argsL := []) (rest := [(.int (0 : Int32))]) (lenOf pd_6___I rfl) rfl (by show 2 * 0 + _ ≤ _; exact Nat.le_of_eq rfl) (hb hby d6_4) (fun _ _ => ⟨rfl, e0, (by decide : 0 + 0 ≤ _), (by decide : 0 + 0 ≤ _)⟩)
  dsimp only [Pt.U, Pt.locs, Pt.cells, Pt.slots] at X1 l1 y1 z1 st1 hQ1
  subst l1 y1 z1
  obtain ⟨rfl, Nq1, eh1⟩ := hQ1
  have N1 := Fr.app N0 Nq1
  refine Goes.on (B := T1.setTop (mkF m 9 #[.val (.ref a), .val (.int (0 : Int32))] [(.int (0 : Int32)), (.int (0 : Int32))])) (fun t k => st1.trans k) ?_
  refine Goes.on (B := T1.setTop (mkF m 34 #[.val (.ref a), .val (.int (0 : Int32))] [(.int (1 : Int32))])) (fun _ k => XS.icmpYes X1.here hx rfl (pc0 := 9) (pc' := 33) rfl (hb hby d6_9) rfl (flt (by decide)).2.1 (by decide) (by decide) (XS.iconst X1.here hx rfl (hb hby d6_33) k)) ?_
  obtain ⟨fs, hr, hrun, hended, hW, hsame⟩ := X1.leave (v := some (.int (1 : Int32))) (fun h => by rw [Bd.returns] at h; cases h)
  exact Goes.leaf (retN X1 hx (t := .boolean) Bd.returns (by simp) (hb hby d6_34) hr) hrun hended ⟨_, _, rfl, by show Qiw0 Z a h0 n0 _ T1.heap _; rw [eh1]; exact ⟨by rw [own_iw0], N1, rfl⟩, ⟨_, rfl⟩, hW, hsame.mono (by decide) (by decide)⟩
theorem d6_12 : decode prog_97_method_2_code 12 = .ok (.aload_n 0, 1) := by decide +kernel
theorem d6_13 : decode prog_97_method_2_code 13 = .ok (.iload_n 1, 1) := by decide +kernel
theorem d6_14 : decode prog_97_method_2_code 14 = .ok (.invokeinterface 19 2, 5) := by decide +kernel
theorem d6_19 : decode prog_97_method_2_code 19 = .ok (.invokestatic 23, 3) := by decide +kernel
theorem d6_22 : decode prog_97_method_2_code 22 = .ok (.ifCond .ne 5, 3) := by decide +kernel
theorem d6_25 : decode prog_97_method_2_code 25 = .ok (.iconst 0, 1) := by decide +kernel
theorem d6_26 : decode prog_97_method_2_code 26 = .ok (.ireturn, 1) := by decide +kernel
theorem d6_27 : decode prog_97_method_2_code 27 = .ok (.iinc 1 1, 3) := by decide +kernel
theorem d6_30 : decode prog_97_method_2_code 30 = .ok (.goto (-28), 3) := by decide +kernel
theorem pd_6__I_C : parseMethodDescriptor "(I)C" = some ⟨[.int], some .char⟩ := by decide +kernel
theorem pd_6__C_Z : parseMethodDescriptor "(C)Z" = some ⟨[.char], some .boolean⟩ := by decide +kernel
theorem ef_iw1 (m : MethodId) (x0 : Addr) : entryFrame m #[(.ref x0)] 2 = mkF m 0 #[.val (.ref x0), .unset] [] := by first | (simp [entryFrame, mkF, argsToLocals, Value.category]; done) | rfl
def Qiw1 (Z : State) (a : Addr) (c0 : Int32) (h0 : Heap) (n0 : Nat) (v : Option Value) (h : Heap) (L : List Loc) : Prop := v = some (.int (own_iw1 c0)) ∧ Fr n0 L ∧ h = h0
set_option maxRecDepth 65536 in
set_option maxHeartbeats 40000000 in
theorem rmiw1 (l : Launch) (Z : State) (a0 : Array Value) (hw : ∀ d ∈ tables_1, d.before a0 Z = true) (ws : List Jvm.Cond) (a : Addr) (c0 : Int32) (h0 : Heap) (n0 : Nat) (Z0 : n0 ≤ h0.size) (EX : Exa Z h0 a "java/lang/String") (HL : own_BL l Z h0 n0 (⟨"java/lang/String", "length", "()I"⟩ : MethodName) #[.ref a] (1 : Int32)) (H0 : own_BL l Z h0 n0 (⟨"java/lang/String", "charAt", "(I)C"⟩ : MethodName) #[.ref a, .int (0 : Int32)] c0) :
    MetFree l (⟨"com/example/heirloom_archive/heirloomarchive/model/Text", "isWhiteSpace", "(Ljava/lang/CharSequence;)Z"⟩ : MethodName) (head1 (Jvm.Cond.code (⟨"com/example/heirloom_archive/heirloomarchive/model/Text", "isWhiteSpace", "(Ljava/lang/CharSequence;)Z"⟩ : MethodName) prog_97_method_2_code 2 (some .boolean) :: ws) ({ frames := 6, cells := 0, slots := 0, locals := 80 } : Room)) (fun aa U => aa = #[(.ref a)] ∧ Z.Warmed39 U.vm ∧ U.heap = h0) (fun _ _ _ _ _ => True) (fun _ U oo U' => ∃ vv LL, oo = .returned vv ∧ Qiw1 Z a c0 h0 n0 vv U'.heap LL ∧ FrameEnd U oo U' LL ({ frames := 6, cells := 0, slots := 0, locals := 80 } : Room).cells ({ frames := 6, cells := 0, slots := 0, locals := 80 } : Room).slots) := by
  refine MetFree.of_bodySF (plainFor_of_name pn_6) hisR ?_
  intro p e s m args below meth c s₁ Bd hml0 hP hK
  obtain ⟨rfl, hZ, hh⟩ := hP
  have hx := Bd.exec
  have hby := Bd.bytes
  have hml : c.maxLocals = 2 := hml0
  have hown : s.vm.findClass "com/example/heirloom_archive/heirloomarchive/model/Text" = some m.cls := findClass_of_methodNamed Bd.named
  have hnm := (name_of_methodNamed Bd.named Bd.method).1
  have X0 : Stand p l e ({ frames := 6, cells := 0, slots := 0, locals := 80 } : Room) s m #[(.ref a)] below meth c s₁ [] 0 0 := Stand.of_body Bd
  have e0 : s₁.heap = h0 := by rw [← hh, Bd.state]; rfl
  have N0 := Fr.nil n0
  show Goes p e below _ (s₁.setTop (entryFrame m #[(.ref a)] 2))
  refine Goes.on (B := s₁.setTop (mkF m 0 #[.val (.ref a), .unset] [])) (fun t k => castTop (ef_iw1 m a) k) ?_
  refine Goes.on (B := s₁.setTop (mkF m 4 #[.val (.ref a), .val (.int (0 : Int32))] [(.ref a), (.int (0 : Int32))])) (fun _ k => XS.iconst X0.here hx rfl (hb hby d6_0) (XS.istoreN X0.here hx rfl (hb hby d6_1) rfl (l' := #[.val (.ref a), .val (.int (0 : Int32))]) rfl (XS.iloadN X0.here hx rfl (hb hby d6_2) rfl  (XS.aloadN X0.here hx rfl (hb hby d6_3) rfl rfl  k)))) ?_
  obtain ⟨cq1, kq1, q1a, q1b, q1c⟩ := isOf hZ e0 EX
  obtain ⟨_, _, ⟨T1, L1, k1, n1⟩, -, X1, ⟨Lc1, hQ1, l1, y1, z1⟩, st1⟩ := X0.interfaceBack hx (xi := (⟨"java/lang/CharSequence", "length", "()I"⟩ : MethodName)) (y := (⟨"java/lang/String", "length", "()I"⟩ : MethodName)) hown (mvT hZ (hw _ (om 34 rfl))) (mvT hZ (hw _ (om 35 rfl))) (mvT hZ (hw _ (om 36 rfl))) (mvT hZ (hw _ (om 37 rfl))) (mvT hZ (hw _ (om 38 rfl))) (mvT hZ (hw _ (om 39 rfl))) (mvT hZ (hw _ (om 40 rfl))) (mvT hZ (hw _ (om 41 rfl))) (by decide) (HL _ _ _ _ _ _ _ 1 hZ (by decide) (by decide)) q1a q1b q1c (g := (mkF m 4 #[.val (.ref a), .val (.int (0 : Int32))] [(.ref a), (.int (0 : Int32))])) rfl (by rw [hml]; rfl) (Steps.refl _) (argsL := []) (rest := [(.int (0 : Int32))]) (lenOf pd_6___I rfl) rfl (by show 2 * 0 + _ ≤ _; exact Nat.le_of_eq rfl) (hb hby d6_4) (fun _ _ => ⟨rfl, e0, (by decide : 0 + 0 ≤ _), (by decide : 0 + 0 ≤ _)⟩)
  dsimp only [Pt.U, Pt.locs, Pt.cells, Pt.slots] at X1 l1 y1 z1 st1 hQ1
  subst l1 y1 z1
  obtain ⟨rfl, Nq1, eh1⟩ := hQ1
  have N1 := Fr.app N0 Nq1
  refine Goes.on (B := T1.setTop (mkF m 9 #[.val (.ref a), .val (.int (0 : Int32))] [(.int (1 : Int32)), (.int (0 : Int32))])) (fun t k => st1.trans k) ?_
  refine Goes.on (B := T1.setTop (mkF m 14 #[.val (.ref a), .val (.int (0 : Int32))] [(.int (0 : Int32)), (.ref a)])) (fun _ k => XS.icmpNo X1.here hx rfl (hb hby d6_9) rfl (tlt (by decide)).2.1 (XS.aloadN X1.here hx rfl (hb hby d6_12) rfl rfl  (XS.iloadN X1.here hx rfl (hb hby d6_13) rfl  k))) ?_
  obtain ⟨cq2, kq2, q2a, q2b, q2c⟩ := isOf hZ eh1 EX
  obtain ⟨_, _, ⟨T2, L2, k2, n2⟩, -, X2, ⟨Lc2, hQ2, l2, y2, z2⟩, st2⟩ := X1.interfaceBack hx (xi := (⟨"java/lang/CharSequence", "charAt", "(I)C"⟩ : MethodName)) (y := (⟨"java/lang/String", "charAt", "(I)C"⟩ : MethodName)) hown (mvT hZ (hw _ (om 62 rfl))) (mvT hZ (hw _ (om 63 rfl))) (mvT hZ (hw _ (om 64 rfl))) (mvT hZ (hw _ (om 65 rfl))) (mvT hZ (hw _ (om 66 rfl))) (mvT hZ (hw _ (om 67 rfl))) (mvT hZ (hw _ (om 68 rfl))) (mvT hZ (hw _ (om 41 rfl))) (by decide) (H0 _ _ _ _ _ _ _ 0 hZ (by decide) (by decide)) q2a q2b q2c (g := (mkF m 14 #[.val (.ref a), .val (.int (0 : Int32))] [(.int (0 : Int32)), (.ref a)])) rfl (by rw [hml]; rfl) (Steps.refl _) (argsL := [(.int (0 : Int32))]) (rest := []) (lenOf pd_6__I_C rfl) rfl (by show 2 * 0 + _ ≤ _; exact Nat.le_of_eq rfl) (hb hby d6_14) (fun _ _ => ⟨rfl, eh1, (by decide : 0 + 0 ≤ _), (by decide : 0 + 0 ≤ _)⟩)
  dsimp only [Pt.U, Pt.locs, Pt.cells, Pt.slots] at X2 l2 y2 z2 st2 hQ2
  subst l2 y2 z2
  obtain ⟨rfl, Nq2, eh2⟩ := hQ2
  have N2 := Fr.app N1 Nq2
  refine Goes.on (B := T2.setTop (mkF m 19 #[.val (.ref a), .val (.int (0 : Int32))] [(.int c0)])) (fun t k => st2.trans k) ?_
  obtain ⟨_, _, ⟨T3, L3, k3, n3⟩, -, X3, ⟨Lc3, hQ3, l3, y3, z3⟩, st3⟩ := Jvm.LawKit.callS X2 hx (y := (⟨"com/example/heirloom_archive/heirloomarchive/model/Text", "isWhiteSpace", "(C)Z"⟩ : MethodName)) hown (mvT hZ (hw _ (om 87 rfl))) (mvT hZ (hw _ (om 88 rfl))) (mvT hZ (hw _ (om 32 rfl))) (mvT hZ (hw _ (om 89 rfl))) (by decide) (backOf (W := 0) (rmws l Z a0 hw [] c0 h0 n0 Z0) hZ (hw _ (om 89 rfl)) (hw _ (om 32 rfl)) (by decide) (by decide)) (g := (mkF m 19 #[.val (.ref a), .val (.int (0 : Int32))] [(.int c0)])) rfl (by rw [hml]; rfl) (argsL := [(.int c0)]) (rest := []) (lenOf pd_6__C_Z rfl) rfl (by show 2 * 0 + _ ≤ _; exact Nat.le_of_eq rfl) (hb hby d6_19) (fun _ _ => ⟨rfl, eh2, (by decide : 0 + 0 ≤ _), (by decide : 0 + 0 ≤ _)⟩)
  dsimp only [Pt.U, Pt.locs, Pt.cells, Pt.slots] at X3 l3 y3 z3 st3 hQ3
  subst l3 y3 z3
  obtain ⟨rfl, Nq3, eh3⟩ := hQ3
  have N3 := Fr.app N2 Nq3
  refine Goes.on (B := T3.setTop (mkF m 22 #[.val (.ref a), .val (.int (0 : Int32))] [(.int (own_ws c0))])) (fun t k => st3 t k) ?_
  by_cases hc22_4 : (own_ws c0) = (0 : Int32)
  · refine Goes.on (B := T3.setTop (mkF m 26 #[.val (.ref a), .val (.int (0 : Int32))] [(.int (0 : Int32))])) (fun _ k => XS.ifNo X3.here hx rfl (hb hby d6_22) rfl ((if0 _ _).trans (teq hc22_4).2) (XS.iconst X3.here hx rfl (hb hby d6_25) k)) ?_
    obtain ⟨fs, hr, hrun, hended, hW, hsame⟩ := X3.leave (v := some (.int (0 : Int32))) (fun h => by rw [Bd.returns] at h; cases h)
    exact Goes.leaf (retN X3 hx (t := .boolean) Bd.returns (by simp) (hb hby d6_26) hr) hrun hended ⟨_, _, rfl, by show Qiw1 Z a c0 h0 n0 _ T3.heap _; rw [eh3]; exact ⟨by rw [own_iw1, if_pos hc22_4], N3, rfl⟩, ⟨_, rfl⟩, hW, hsame.mono (by decide) (by decide)⟩
  · refine Goes.on (B := T3.setTop (mkF m 4 #[.val (.ref a), .val (.int (1 : Int32))] [(.ref a), (.int (1 : Int32))])) (fun _ k => XS.ifYes X3.here hx rfl (pc0 := 22) (pc' := 27) rfl (hb hby d6_22) rfl ((if0 _ _).trans (feq hc22_4).2) (by decide) (by decide) (XS.iinc X3.here hx rfl (hb hby d6_27) rfl (l' := #[.val (.ref a), .val (.int (1 : Int32))]) rfl (XS.goto X3.here hx rfl (pc0 := 30) (pc' := 2) rfl (hb hby d6_30) (by decide) (by decide) (XS.iloadN X3.here hx rfl (hb hby d6_2) rfl  (XS.aloadN X3.here hx rfl (hb hby d6_3) rfl rfl  k))))) ?_
    obtain ⟨cq5, kq5, q5a, q5b, q5c⟩ := isOf hZ eh3 EX
    obtain ⟨_, _, ⟨T5, L5, k5, n5⟩, -, X5, ⟨Lc5, hQ5, l5, y5, z5⟩, st5⟩ := X3.interfaceBack hx (xi := (⟨"java/lang/CharSequence", "length", "()I"⟩ : MethodName)) (y := (⟨"java/lang/String", "length", "()I"⟩ : MethodName)) hown (mvT hZ (hw _ (om 34 rfl))) (mvT hZ (hw _ (om 35 rfl))) (mvT hZ (hw _ (om 36 rfl))) (mvT hZ (hw _ (om 37 rfl))) (mvT hZ (hw _ (om 38 rfl))) (mvT hZ (hw _ (om 39 rfl))) (mvT hZ (hw _ (om 40 rfl))) (mvT hZ (hw _ (om 41 rfl))) (by decide) (HL _ _ _ _ _ _ _ 1 hZ (by decide) (by decide)) q5a q5b q5c (g := (mkF m 4 #[.val (.ref a), .val (.int (1 : Int32))] [(.ref a), (.int (1 : Int32))])) rfl (by rw [hml]; rfl) (Steps.refl _) (argsL := []) (rest := [(.int (1 : Int32))]) (lenOf pd_6___I rfl) rfl (by show 2 * 0 + _ ≤ _; exact Nat.le_of_eq rfl) (hb hby d6_4) (fun _ _ => ⟨rfl, eh3, (by decide : 0 + 0 ≤ _), (by decide : 0 + 0 ≤ _)⟩)
    dsimp only [Pt.U, Pt.locs, Pt.cells, Pt.slots] at X5 l5 y5 z5 st5 hQ5
    subst l5 y5 z5
    obtain ⟨rfl, Nq5, eh5⟩ := hQ5
    have N5 := Fr.app N3 Nq5
    refine Goes.on (B := T5.setTop (mkF m 9 #[.val (.ref a), .val (.int (1 : Int32))] [(.int (1 : Int32)), (.int (1 : Int32))])) (fun t k => st5.trans k) ?_
    refine Goes.on (B := T5.setTop (mkF m 34 #[.val (.ref a), .val (.int (1 : Int32))] [(.int (1 : Int32))])) (fun _ k => XS.icmpYes X5.here hx rfl (pc0 := 9) (pc' := 33) rfl (hb hby d6_9) rfl (flt (by decide)).2.1 (by decide) (by decide) (XS.iconst X5.here hx rfl (hb hby d6_33) k)) ?_
    obtain ⟨fs, hr, hrun, hended, hW, hsame⟩ := X5.leave (v := some (.int (1 : Int32))) (fun h => by rw [Bd.returns] at h; cases h)
    exact Goes.leaf (retN X5 hx (t := .boolean) Bd.returns (by simp) (hb hby d6_34) hr) hrun hended ⟨_, _, rfl, by show Qiw1 Z a c0 h0 n0 _ T5.heap _; rw [eh5]; exact ⟨by rw [own_iw1, if_neg hc22_4], N5, rfl⟩, ⟨_, rfl⟩, hW, hsame.mono (by decide) (by decide)⟩
theorem ef_iw2 (m : MethodId) (x0 : Addr) : entryFrame m #[(.ref x0)] 2 = mkF m 0 #[.val (.ref x0), .unset] [] := by first | (simp [entryFrame, mkF, argsToLocals, Value.category]; done) | rfl
def Qiw2 (Z : State) (a : Addr) (c0 c1 : Int32) (h0 : Heap) (n0 : Nat) (v : Option Value) (h : Heap) (L : List Loc) : Prop := v = some (.int (own_iw2 c0 c1)) ∧ Fr n0 L ∧ h = h0
set_option maxRecDepth 65536 in
set_option maxHeartbeats 40000000 in
theorem rmiw2 (l : Launch) (Z : State) (a0 : Array Value) (hw : ∀ d ∈ tables_1, d.before a0 Z = true) (ws : List Jvm.Cond) (a : Addr) (c0 c1 : Int32) (h0 : Heap) (n0 : Nat) (Z0 : n0 ≤ h0.size) (EX : Exa Z h0 a "java/lang/String") (HL : own_BL l Z h0 n0 (⟨"java/lang/String", "length", "()I"⟩ : MethodName) #[.ref a] (2 : Int32)) (H0 : own_BL l Z h0 n0 (⟨"java/lang/String", "charAt", "(I)C"⟩ : MethodName) #[.ref a, .int (0 : Int32)] c0) (H1 : own_BL l Z h0 n0 (⟨"java/lang/String", "charAt", "(I)C"⟩ : MethodName) #[.ref a, .int (1 : Int32)] c1) :
    MetFree l (⟨"com/example/heirloom_archive/heirloomarchive/model/Text", "isWhiteSpace", "(Ljava/lang/CharSequence;)Z"⟩ : MethodName) (head1 (Jvm.Cond.code (⟨"com/example/heirloom_archive/heirloomarchive/model/Text", "isWhiteSpace", "(Ljava/lang/CharSequence;)Z"⟩ : MethodName) prog_97_method_2_code 2 (some .boolean) :: ws) ({ frames := 6, cells := 0, slots := 0, locals := 80 } : Room)) (fun aa U => aa = #[(.ref a)] ∧ Z.Warmed39 U.vm ∧ U.heap = h0) (fun _ _ _ _ _ => True) (fun _ U oo U' => ∃ vv LL, oo = .returned vv ∧ Qiw2 Z a c0 c1 h0 n0 vv U'.heap LL ∧ FrameEnd U oo U' LL ({ frames := 6, cells := 0, slots := 0, locals := 80 } : Room).cells ({ frames := 6, cells := 0, slots := 0, locals := 80 } : Room).slots) := by
  refine MetFree.of_bodySF (plainFor_of_name pn_6) hisR ?_
  intro p e s m args below meth c s₁ Bd hml0 hP hK
  obtain ⟨rfl, hZ, hh⟩ := hP
  have hx := Bd.exec
  have hby := Bd.bytes
  have hml : c.maxLocals = 2 := hml0
  have hown : s.vm.findClass "com/example/heirloom_archive/heirloomarchive/model/Text" = some m.cls := findClass_of_methodNamed Bd.named
  have hnm := (name_of_methodNamed Bd.named Bd.method).1
  have X0 : Stand p l e ({ frames := 6, cells := 0, slots := 0, locals := 80 } : Room) s m #[(.ref a)] below meth c s₁ [] 0 0 := Stand.of_body Bd
  have e0 : s₁.heap = h0 := by rw [← hh, Bd.state]; rfl
  have N0 := Fr.nil n0
  show Goes p e below _ (s₁.setTop (entryFrame m #[(.ref a)] 2))
  refine Goes.on (B := s₁.setTop (mkF m 0 #[.val (.ref a), .unset] [])) (fun t k => castTop (ef_iw2 m a) k) ?_
  refine Goes.on (B := s₁.setTop (mkF m 4 #[.val (.ref a), .val (.int (0 : Int32))] [(.ref a), (.int (0 : Int32))])) (fun _ k => XS.iconst X0.here hx rfl (hb hby d6_0) (XS.istoreN X0.here hx rfl (hb hby d6_1) rfl (l' := #[.val (.ref a), .val (.int (0 : Int32))]) rfl (XS.iloadN X0.here hx rfl (hb hby d6_2) rfl  (XS.aloadN X0.here hx rfl (hb hby d6_3) rfl rfl  k)))) ?_
  obtain ⟨cq1, kq1, q1a, q1b, q1c⟩ := isOf hZ e0 EX
  obtain ⟨_, _, ⟨T1, L1, k1, n1⟩, -, X1, ⟨Lc1, hQ1, l1, y1, z1⟩, st1⟩ := X0.interfaceBack hx (xi := (⟨"java/lang/CharSequence", "length", "()I"⟩ : MethodName)) (y := (⟨"java/lang/String", "length", "()I"⟩ : MethodName)) hown (mvT hZ (hw _ (om 34 rfl))) (mvT hZ (hw _ (om 35 rfl))) (mvT hZ (hw _ (om 36 rfl))) (mvT hZ (hw _ (om 37 rfl))) (mvT hZ (hw _ (om 38 rfl))) (mvT hZ (hw _ (om 39 rfl))) (mvT hZ (hw _ (om 40 rfl))) (mvT hZ (hw _ (om 41 rfl))) (by decide) (HL _ _ _ _ _ _ _ 1 hZ (by decide) (by decide)) q1a q1b q1c (g := (mkF m 4 #[.val (.ref a), .val (.int (0 : Int32))] [(.ref a), (.int (0 : Int32))])) rfl (by rw [hml]; rfl) (Steps.refl _) (argsL := []) (rest := [(.int (0 : Int32))]) (lenOf pd_6___I rfl) rfl (by show 2 * 0 + _ ≤ _; exact Nat.le_of_eq rfl) (hb hby d6_4) (fun _ _ => ⟨rfl, e0, (by decide : 0 + 0 ≤ _), (by decide : 0 + 0 ≤ _)⟩)
  dsimp only [Pt.U, Pt.locs, Pt.cells, Pt.slots] at X1 l1 y1 z1 st1 hQ1
  subst l1 y1 z1
  obtain ⟨rfl, Nq1, eh1⟩ := hQ1
  have N1 := Fr.app N0 Nq1
  refine Goes.on (B := T1.setTop (mkF m 9 #[.val (.ref a), .val (.int (0 : Int32))] [(.int (2 : Int32)), (.int (0 : Int32))])) (fun t k => st1.trans k) ?_
  refine Goes.on (B := T1.setTop (mkF m 14 #[.val (.ref a), .val (.int (0 : Int32))] [(.int (0 : Int32)), (.ref a)])) (fun _ k => XS.icmpNo X1.here hx rfl (hb hby d6_9) rfl (tlt (by decide)).2.1 (XS.aloadN X1.here hx rfl (hb hby d6_12) rfl rfl  (XS.iloadN X1.here hx rfl (hb hby d6_13) rfl  k))) ?_
  obtain ⟨cq2, kq2, q2a, q2b, q2c⟩ := isOf hZ eh1 EX
  obtain ⟨_, _, ⟨T2, L2, k2, n2⟩, -, X2, ⟨Lc2, hQ2, l2, y2, z2⟩, st2⟩ := X1.interfaceBack hx (xi := (⟨"java/lang/CharSequence", "charAt", "(I)C"⟩ : MethodName)) (y := (⟨"java/lang/String", "charAt", "(I)C"⟩ : MethodName)) hown (mvT hZ (hw _ (om 62 rfl))) (mvT hZ (hw _ (om 63 rfl))) (mvT hZ (hw _ (om 64 rfl))) (mvT hZ (hw _ (om 65 rfl))) (mvT hZ (hw _ (om 66 rfl))) (mvT hZ (hw _ (om 67 rfl))) (mvT hZ (hw _ (om 68 rfl))) (mvT hZ (hw _ (om 41 rfl))) (by decide) (H0 _ _ _ _ _ _ _ 0 hZ (by decide) (by decide)) q2a q2b q2c (g := (mkF m 14 #[.val (.ref a), .val (.int (0 : Int32))] [(.int (0 : Int32)), (.ref a)])) rfl (by rw [hml]; rfl) (Steps.refl _) (argsL := [(.int (0 : Int32))]) (rest := []) (lenOf pd_6__I_C rfl) rfl (by show 2 * 0 + _ ≤ _; exact Nat.le_of_eq rfl) (hb hby d6_14) (fun _ _ => ⟨rfl, eh1, (by decide : 0 + 0 ≤ _), (by decide : 0 + 0 ≤ _)⟩)
  dsimp only [Pt.U, Pt.locs, Pt.cells, Pt.slots] at X2 l2 y2 z2 st2 hQ2
  subst l2 y2 z2
  obtain ⟨rfl, Nq2, eh2⟩ := hQ2
  have N2 := Fr.app N1 Nq2
  refine Goes.on (B := T2.setTop (mkF m 19 #[.val (.ref a), .val (.int (0 : Int32))] [(.int c0)])) (fun t k => st2.trans k) ?_
  obtain ⟨_, _, ⟨T3, L3, k3, n3⟩, -, X3, ⟨Lc3, hQ3, l3, y3, z3⟩, st3⟩ := Jvm.LawKit.callS X2 hx (y := (⟨"com/example/heirloom_archive/heirloomarchive/model/Text", "isWhiteSpace", "(C)Z"⟩ : MethodName)) hown (mvT hZ (hw _ (om 87 rfl))) (mvT hZ (hw _ (om 88 rfl))) (mvT hZ (hw _ (om 32 rfl))) (mvT hZ (hw _ (om 89 rfl))) (by decide) (backOf (W := 0) (rmws l Z a0 hw [] c0 h0 n0 Z0) hZ (hw _ (om 89 rfl)) (hw _ (om 32 rfl)) (by decide) (by decide)) (g := (mkF m 19 #[.val (.ref a), .val (.int (0 : Int32))] [(.int c0)])) rfl (by rw [hml]; rfl) (argsL := [(.int c0)]) (rest := []) (lenOf pd_6__C_Z rfl) rfl (by show 2 * 0 + _ ≤ _; exact Nat.le_of_eq rfl) (hb hby d6_19) (fun _ _ => ⟨rfl, eh2, (by decide : 0 + 0 ≤ _), (by decide : 0 + 0 ≤ _)⟩)
  dsimp only [Pt.U, Pt.locs, Pt.cells, Pt.slots] at X3 l3 y3 z3 st3 hQ3
  subst l3 y3 z3
  obtain ⟨rfl, Nq3, eh3⟩ := hQ3
  have N3 := Fr.app N2 Nq3
  refine Goes.on (B := T3.setTop (mkF m 22 #[.val (.ref a), .val (.int (0 : Int32))] [(.int (own_ws c0))])) (fun t k => st3 t k) ?_
  by_cases hc22_4 : (own_ws c0) = (0 : Int32)
  · refine Goes.on (B := T3.setTop (mkF m 26 #[.val (.ref a), .val (.int (0 : Int32))] [(.int (0 : Int32))])) (fun _ k => XS.ifNo X3.here hx rfl (hb hby d6_22) rfl ((if0 _ _).trans (teq hc22_4).2) (XS.iconst X3.here hx rfl (hb hby d6_25) k)) ?_
    obtain ⟨fs, hr, hrun, hended, hW, hsame⟩ := X3.leave (v := some (.int (0 : Int32))) (fun h => by rw [Bd.returns] at h; cases h)
    exact Goes.leaf (retN X3 hx (t := .boolean) Bd.returns (by simp) (hb hby d6_26) hr) hrun hended ⟨_, _, rfl, by show Qiw2 Z a c0 c1 h0 n0 _ T3.heap _; rw [eh3]; exact ⟨by rw [own_iw2, if_pos hc22_4], N3, rfl⟩, ⟨_, rfl⟩, hW, hsame.mono (by decide) (by decide)⟩
  · refine Goes.on (B := T3.setTop (mkF m 4 #[.val (.ref a), .val (.int (1 : Int32))] [(.ref a), (.int (1 : Int32))])) (fun _ k => XS.ifYes X3.here hx rfl (pc0 := 22) (pc' := 27) rfl (hb hby d6_22) rfl ((if0 _ _).trans (feq hc22_4).2) (by decide) (by decide) (XS.iinc X3.here hx rfl (hb hby d6_27) rfl (l' := #[.val (.ref a), .val (.int (1 : Int32))]) rfl (XS.goto X3.here hx rfl (pc0 := 30) (pc' := 2) rfl (hb hby d6_30) (by decide) (by decide) (XS.iloadN X3.here hx rfl (hb hby d6_2) rfl  (XS.aloadN X3.here hx rfl (hb hby d6_3) rfl rfl  k))))) ?_
    obtain ⟨cq5, kq5, q5a, q5b, q5c⟩ := isOf hZ eh3 EX
    obtain ⟨_, _, ⟨T5, L5, k5, n5⟩, -, X5, ⟨Lc5, hQ5, l5, y5, z5⟩, st5⟩ := X3.interfaceBack hx (xi := (⟨"java/lang/CharSequence", "length", "()I"⟩ : MethodName)) (y := (⟨"java/lang/String", "length", "()I"⟩ : MethodName)) hown (mvT hZ (hw _ (om 34 rfl))) (mvT hZ (hw _ (om 35 rfl))) (mvT hZ (hw _ (om 36 rfl))) (mvT hZ (hw _ (om 37 rfl))) (mvT hZ (hw _ (om 38 rfl))) (mvT hZ (hw _ (om 39 rfl))) (mvT hZ (hw _ (om 40 rfl))) (mvT hZ (hw _ (om 41 rfl))) (by decide) (HL _ _ _ _ _ _ _ 1 hZ (by decide) (by decide)) q5a q5b q5c (g := (mkF m 4 #[.val (.ref a), .val (.int (1 : Int32))] [(.ref a), (.int (1 : Int32))])) rfl (by rw [hml]; rfl) (Steps.refl _) (argsL := []) (rest := [(.int (1 : Int32))]) (lenOf pd_6___I rfl) rfl (by show 2 * 0 + _ ≤ _; exact Nat.le_of_eq rfl) (hb hby d6_4) (fun _ _ => ⟨rfl, eh3, (by decide : 0 + 0 ≤ _), (by decide : 0 + 0 ≤ _)⟩)
    dsimp only [Pt.U, Pt.locs, Pt.cells, Pt.slots] at X5 l5 y5 z5 st5 hQ5
    subst l5 y5 z5
    obtain ⟨rfl, Nq5, eh5⟩ := hQ5
    have N5 := Fr.app N3 Nq5
    refine Goes.on (B := T5.setTop (mkF m 9 #[.val (.ref a), .val (.int (1 : Int32))] [(.int (2 : Int32)), (.int (1 : Int32))])) (fun t k => st5.trans k) ?_
    refine Goes.on (B := T5.setTop (mkF m 14 #[.val (.ref a), .val (.int (1 : Int32))] [(.int (1 : Int32)), (.ref a)])) (fun _ k => XS.icmpNo X5.here hx rfl (hb hby d6_9) rfl (tlt (by decide)).2.1 (XS.aloadN X5.here hx rfl (hb hby d6_12) rfl rfl  (XS.iloadN X5.here hx rfl (hb hby d6_13) rfl  k))) ?_
    obtain ⟨cq6, kq6, q6a, q6b, q6c⟩ := isOf hZ eh5 EX
    obtain ⟨_, _, ⟨T6, L6, k6, n6⟩, -, X6, ⟨Lc6, hQ6, l6, y6, z6⟩, st6⟩ := X5.interfaceBack hx (xi := (⟨"java/lang/CharSequence", "charAt", "(I)C"⟩ : MethodName)) (y := (⟨"java/lang/String", "charAt", "(I)C"⟩ : MethodName)) hown (mvT hZ (hw _ (om 62 rfl))) (mvT hZ (hw _ (om 63 rfl))) (mvT hZ (hw _ (om 64 rfl))) (mvT hZ (hw _ (om 65 rfl))) (mvT hZ (hw _ (om 66 rfl))) (mvT hZ (hw _ (om 67 rfl))) (mvT hZ (hw _ (om 68 rfl))) (mvT hZ (hw _ (om 41 rfl))) (by decide) (H1 _ _ _ _ _ _ _ 0 hZ (by decide) (by decide)) q6a q6b q6c (g := (mkF m 14 #[.val (.ref a), .val (.int (1 : Int32))] [(.int (1 : Int32)), (.ref a)])) rfl (by rw [hml]; rfl) (Steps.refl _) (argsL := [(.int (1 : Int32))]) (rest := []) (lenOf pd_6__I_C rfl) rfl (by show 2 * 0 + _ ≤ _; exact Nat.le_of_eq rfl) (hb hby d6_14) (fun _ _ => ⟨rfl, eh5, (by decide : 0 + 0 ≤ _), (by decide : 0 + 0 ≤ _)⟩)
    dsimp only [Pt.U, Pt.locs, Pt.cells, Pt.slots] at X6 l6 y6 z6 st6 hQ6
    subst l6 y6 z6
    obtain ⟨rfl, Nq6, eh6⟩ := hQ6
    have N6 := Fr.app N5 Nq6
    refine Goes.on (B := T6.setTop (mkF m 19 #[.val (.ref a), .val (.int (1 : Int32))] [(.int c1)])) (fun t k => st6.trans k) ?_
    obtain ⟨_, _, ⟨T7, L7, k7, n7⟩, -, X7, ⟨Lc7, hQ7, l7, y7, z7⟩, st7⟩ := Jvm.LawKit.callS X6 hx (y := (⟨"com/example/heirloom_archive/heirloomarchive/model/Text", "isWhiteSpace", "(C)Z"⟩ : MethodName)) hown (mvT hZ (hw _ (om 87 rfl))) (mvT hZ (hw _ (om 88 rfl))) (mvT hZ (hw _ (om 32 rfl))) (mvT hZ (hw _ (om 89 rfl))) (by decide) (backOf (W := 0) (rmws l Z a0 hw [] c1 h0 n0 Z0) hZ (hw _ (om 89 rfl)) (hw _ (om 32 rfl)) (by decide) (by decide)) (g := (mkF m 19 #[.val (.ref a), .val (.int (1 : Int32))] [(.int c1)])) rfl (by rw [hml]; rfl) (argsL := [(.int c1)]) (rest := []) (lenOf pd_6__C_Z rfl) rfl (by show 2 * 0 + _ ≤ _; exact Nat.le_of_eq rfl) (hb hby d6_19) (fun _ _ => ⟨rfl, eh6, (by decide : 0 + 0 ≤ _), (by decide : 0 + 0 ≤ _)⟩)
    dsimp only [Pt.U, Pt.locs, Pt.cells, Pt.slots] at X7 l7 y7 z7 st7 hQ7
    subst l7 y7 z7
    obtain ⟨rfl, Nq7, eh7⟩ := hQ7
    have N7 := Fr.app N6 Nq7
    refine Goes.on (B := T7.setTop (mkF m 22 #[.val (.ref a), .val (.int (1 : Int32))] [(.int (own_ws c1))])) (fun t k => st7 t k) ?_
    by_cases hc22_8 : (own_ws c1) = (0 : Int32)
    · refine Goes.on (B := T7.setTop (mkF m 26 #[.val (.ref a), .val (.int (1 : Int32))] [(.int (0 : Int32))])) (fun _ k => XS.ifNo X7.here hx rfl (hb hby d6_22) rfl ((if0 _ _).trans (teq hc22_8).2) (XS.iconst X7.here hx rfl (hb hby d6_25) k)) ?_
      obtain ⟨fs, hr, hrun, hended, hW, hsame⟩ := X7.leave (v := some (.int (0 : Int32))) (fun h => by rw [Bd.returns] at h; cases h)
      exact Goes.leaf (retN X7 hx (t := .boolean) Bd.returns (by simp) (hb hby d6_26) hr) hrun hended ⟨_, _, rfl, by show Qiw2 Z a c0 c1 h0 n0 _ T7.heap _; rw [eh7]; exact ⟨by rw [own_iw2, if_neg hc22_4, if_pos hc22_8], N7, rfl⟩, ⟨_, rfl⟩, hW, hsame.mono (by decide) (by decide)⟩
    · refine Goes.on (B := T7.setTop (mkF m 4 #[.val (.ref a), .val (.int (2 : Int32))] [(.ref a), (.int (2 : Int32))])) (fun _ k => XS.ifYes X7.here hx rfl (pc0 := 22) (pc' := 27) rfl (hb hby d6_22) rfl ((if0 _ _).trans (feq hc22_8).2) (by decide) (by decide) (XS.iinc X7.here hx rfl (hb hby d6_27) rfl (l' := #[.val (.ref a), .val (.int (2 : Int32))]) rfl (XS.goto X7.here hx rfl (pc0 := 30) (pc' := 2) rfl (hb hby d6_30) (by decide) (by decide) (XS.iloadN X7.here hx rfl (hb hby d6_2) rfl  (XS.aloadN X7.here hx rfl (hb hby d6_3) rfl rfl  k))))) ?_
      obtain ⟨cq9, kq9, q9a, q9b, q9c⟩ := isOf hZ eh7 EX
      obtain ⟨_, _, ⟨T9, L9, k9, n9⟩, -, X9, ⟨Lc9, hQ9, l9, y9, z9⟩, st9⟩ := X7.interfaceBack hx (xi := (⟨"java/lang/CharSequence", "length", "()I"⟩ : MethodName)) (y := (⟨"java/lang/String", "length", "()I"⟩ : MethodName)) hown (mvT hZ (hw _ (om 34 rfl))) (mvT hZ (hw _ (om 35 rfl))) (mvT hZ (hw _ (om 36 rfl))) (mvT hZ (hw _ (om 37 rfl))) (mvT hZ (hw _ (om 38 rfl))) (mvT hZ (hw _ (om 39 rfl))) (mvT hZ (hw _ (om 40 rfl))) (mvT hZ (hw _ (om 41 rfl))) (by decide) (HL _ _ _ _ _ _ _ 1 hZ (by decide) (by decide)) q9a q9b q9c (g := (mkF m 4 #[.val (.ref a), .val (.int (2 : Int32))] [(.ref a), (.int (2 : Int32))])) rfl (by rw [hml]; rfl) (Steps.refl _) (argsL := []) (rest := [(.int (2 : Int32))]) (lenOf pd_6___I rfl) rfl (by show 2 * 0 + _ ≤ _; exact Nat.le_of_eq rfl) (hb hby d6_4) (fun _ _ => ⟨rfl, eh7, (by decide : 0 + 0 ≤ _), (by decide : 0 + 0 ≤ _)⟩)
      dsimp only [Pt.U, Pt.locs, Pt.cells, Pt.slots] at X9 l9 y9 z9 st9 hQ9
      subst l9 y9 z9
      obtain ⟨rfl, Nq9, eh9⟩ := hQ9
      have N9 := Fr.app N7 Nq9
      refine Goes.on (B := T9.setTop (mkF m 9 #[.val (.ref a), .val (.int (2 : Int32))] [(.int (2 : Int32)), (.int (2 : Int32))])) (fun t k => st9.trans k) ?_
      refine Goes.on (B := T9.setTop (mkF m 34 #[.val (.ref a), .val (.int (2 : Int32))] [(.int (1 : Int32))])) (fun _ k => XS.icmpYes X9.here hx rfl (pc0 := 9) (pc' := 33) rfl (hb hby d6_9) rfl (flt (by decide)).2.1 (by decide) (by decide) (XS.iconst X9.here hx rfl (hb hby d6_33) k)) ?_
      obtain ⟨fs, hr, hrun, hended, hW, hsame⟩ := X9.leave (v := some (.int (1 : Int32))) (fun h => by rw [Bd.returns] at h; cases h)
      exact Goes.leaf (retN X9 hx (t := .boolean) Bd.returns (by simp) (hb hby d6_34) hr) hrun hended ⟨_, _, rfl, by show Qiw2 Z a c0 c1 h0 n0 _ T9.heap _; rw [eh9]; exact ⟨by rw [own_iw2, if_neg hc22_4, if_neg hc22_8], N9, rfl⟩, ⟨_, rfl⟩, hW, hsame.mono (by decide) (by decide)⟩
theorem ef_iw3 (m : MethodId) (x0 : Addr) : entryFrame m #[(.ref x0)] 2 = mkF m 0 #[.val (.ref x0), .unset] [] := by first | (simp [entryFrame, mkF, argsToLocals, Value.category]; done) | rfl
def Qiw3 (Z : State) (a : Addr) (c0 c1 c2 : Int32) (h0 : Heap) (n0 : Nat) (v : Option Value) (h : Heap) (L : List Loc) : Prop := v = some (.int (own_iw3 c0 c1 c2)) ∧ Fr n0 L ∧ h = h0
set_option maxRecDepth 65536 in
set_option maxHeartbeats 40000000 in
theorem rmiw3 (l : Launch) (Z : State) (a0 : Array Value) (hw : ∀ d ∈ tables_1, d.before a0 Z = true) (ws : List Jvm.Cond) (a : Addr) (c0 c1 c2 : Int32) (h0 : Heap) (n0 : Nat) (Z0 : n0 ≤ h0.size) (EX : Exa Z h0 a "java/lang/String") (HL : own_BL l Z h0 n0 (⟨"java/lang/String", "length", "()I"⟩ : MethodName) #[.ref a] (3 : Int32)) (H0 : own_BL l Z h0 n0 (⟨"java/lang/String", "charAt", "(I)C"⟩ : MethodName) #[.ref a, .int (0 : Int32)] c0) (H1 : own_BL l Z h0 n0 (⟨"java/lang/String", "charAt", "(I)C"⟩ : MethodName) #[.ref a, .int (1 : Int32)] c1) (H2 : own_BL l Z h0 n0 (⟨"java/lang/String", "charAt", "(I)C"⟩ : MethodName) #[.ref a, .int (2 : Int32)] c2) :
    MetFree l (⟨"com/example/heirloom_archive/heirloomarchive/model/Text", "isWhiteSpace", "(Ljava/lang/CharSequence;)Z"⟩ : MethodName) (head1 (Jvm.Cond.code (⟨"com/example/heirloom_archive/heirloomarchive/model/Text", "isWhiteSpace", "(Ljava/lang/CharSequence;)Z"⟩ : MethodName) prog_97_method_2_code 2 (some .boolean) :: ws) ({ frames := 6, cells := 0, slots := 0, locals := 80 } : Room)) (fun aa U => aa = #[(.ref a)] ∧ Z.Warmed39 U.vm ∧ U.heap = h0) (fun _ _ _ _ _ => True) (fun _ U oo U' => ∃ vv LL, oo = .returned vv ∧ Qiw3 Z a c0 c1 c2 h0 n0 vv U'.heap LL ∧ FrameEnd U oo U' LL ({ frames := 6, cells := 0, slots := 0, locals := 80 } : Room).cells ({ frames := 6, cells := 0, slots := 0, locals := 80 } : Room).slots) := by
  refine MetFree.of_bodySF (plainFor_of_name pn_6) hisR ?_
  intro p e s m args below meth c s₁ Bd hml0 hP hK
  obtain ⟨rfl, hZ, hh⟩ := hP
  have hx := Bd.exec
  have hby := Bd.bytes
  have hml : c.maxLocals = 2 := hml0
  have hown : s.vm.findClass "com/example/heirloom_archive/heirloomarchive/model/Text" = some m.cls := findClass_of_methodNamed Bd.named
  have hnm := (name_of_methodNamed Bd.named Bd.method).1
  have X0 : Stand p l e ({ frames := 6, cells := 0, slots := 0, locals := 80 } : Room) s m #[(.ref a)] below meth c s₁ [] 0 0 := Stand.of_body Bd
  have e0 : s₁.heap = h0 := by rw [← hh, Bd.state]; rfl
  have N0 := Fr.nil n0
  show Goes p e below _ (s₁.setTop (entryFrame m #[(.ref a)] 2))
  refine Goes.on (B := s₁.setTop (mkF m 0 #[.val (.ref a), .unset] [])) (fun t k => castTop (ef_iw3 m a) k) ?_
  refine Goes.on (B := s₁.setTop (mkF m 4 #[.val (.ref a), .val (.int (0 : Int32))] [(.ref a), (.int (0 : Int32))])) (fun _ k => XS.iconst X0.here hx rfl (hb hby d6_0) (XS.istoreN X0.here hx rfl (hb hby d6_1) rfl (l' := #[.val (.ref a), .val (.int (0 : Int32))]) rfl (XS.iloadN X0.here hx rfl (hb hby d6_2) rfl  (XS.aloadN X0.here hx rfl (hb hby d6_3) rfl rfl  k)))) ?_
  obtain ⟨cq1, kq1, q1a, q1b, q1c⟩ := isOf hZ e0 EX
  obtain ⟨_, _, ⟨T1, L1, k1, n1⟩, -, X1, ⟨Lc1, hQ1, l1, y1, z1⟩, st1⟩ := X0.interfaceBack hx (xi := (⟨"java/lang/CharSequence", "length", "()I"⟩ : MethodName)) (y := (⟨"java/lang/String", "length", "()I"⟩ : MethodName)) hown (mvT hZ (hw _ (om 34 rfl))) (mvT hZ (hw _ (om 35 rfl))) (mvT hZ (hw _ (om 36 rfl))) (mvT hZ (hw _ (om 37 rfl))) (mvT hZ (hw _ (om 38 rfl))) (mvT hZ (hw _ (om 39 rfl))) (mvT hZ (hw _ (om 40 rfl))) (mvT hZ (hw _ (om 41 rfl))) (by decide) (HL _ _ _ _ _ _ _ 1 hZ (by decide) (by decide)) q1a q1b q1c (g := (mkF m 4 #[.val (.ref a), .val (.int (0 : Int32))] [(.ref a), (.int (0 : Int32))])) rfl (by rw [hml]; rfl) (Steps.refl _) (argsL := []) (rest := [(.int (0 : Int32))]) (lenOf pd_6___I rfl) rfl (by show 2 * 0 + _ ≤ _; exact Nat.le_of_eq rfl) (hb hby d6_4) (fun _ _ => ⟨rfl, e0, (by decide : 0 + 0 ≤ _), (by decide : 0 + 0 ≤ _)⟩)
  dsimp only [Pt.U, Pt.locs, Pt.cells, Pt.slots] at X1 l1 y1 z1 st1 hQ1
  subst l1 y1 z1
  obtain ⟨rfl, Nq1, eh1⟩ := hQ1
  have N1 := Fr.app N0 Nq1
  refine Goes.on (B := T1.setTop (mkF m 9 #[.val (.ref a), .val (.int (0 : Int32))] [(.int (3 : Int32)), (.int (0 : Int32))])) (fun t k => st1.trans k) ?_
  refine Goes.on (B := T1.setTop (mkF m 14 #[.val (.ref a), .val (.int (0 : Int32))] [(.int (0 : Int32)), (.ref a)])) (fun _ k => XS.icmpNo X1.here hx rfl (hb hby d6_9) rfl (tlt (by decide)).2.1 (XS.aloadN X1.here hx rfl (hb hby d6_12) rfl rfl  (XS.iloadN X1.here hx rfl (hb hby d6_13) rfl  k))) ?_
  obtain ⟨cq2, kq2, q2a, q2b, q2c⟩ := isOf hZ eh1 EX
  obtain ⟨_, _, ⟨T2, L2, k2, n2⟩, -, X2, ⟨Lc2, hQ2, l2, y2, z2⟩, st2⟩ := X1.interfaceBack hx (xi := (⟨"java/lang/CharSequence", "charAt", "(I)C"⟩ : MethodName)) (y := (⟨"java/lang/String", "charAt", "(I)C"⟩ : MethodName)) hown (mvT hZ (hw _ (om 62 rfl))) (mvT hZ (hw _ (om 63 rfl))) (mvT hZ (hw _ (om 64 rfl))) (mvT hZ (hw _ (om 65 rfl))) (mvT hZ (hw _ (om 66 rfl))) (mvT hZ (hw _ (om 67 rfl))) (mvT hZ (hw _ (om 68 rfl))) (mvT hZ (hw _ (om 41 rfl))) (by decide) (H0 _ _ _ _ _ _ _ 0 hZ (by decide) (by decide)) q2a q2b q2c (g := (mkF m 14 #[.val (.ref a), .val (.int (0 : Int32))] [(.int (0 : Int32)), (.ref a)])) rfl (by rw [hml]; rfl) (Steps.refl _) (argsL := [(.int (0 : Int32))]) (rest := []) (lenOf pd_6__I_C rfl) rfl (by show 2 * 0 + _ ≤ _; exact Nat.le_of_eq rfl) (hb hby d6_14) (fun _ _ => ⟨rfl, eh1, (by decide : 0 + 0 ≤ _), (by decide : 0 + 0 ≤ _)⟩)
  dsimp only [Pt.U, Pt.locs, Pt.cells, Pt.slots] at X2 l2 y2 z2 st2 hQ2
  subst l2 y2 z2
  obtain ⟨rfl, Nq2, eh2⟩ := hQ2
  have N2 := Fr.app N1 Nq2
  refine Goes.on (B := T2.setTop (mkF m 19 #[.val (.ref a), .val (.int (0 : Int32))] [(.int c0)])) (fun t k => st2.trans k) ?_
  obtain ⟨_, _, ⟨T3, L3, k3, n3⟩, -, X3, ⟨Lc3, hQ3, l3, y3, z3⟩, st3⟩ := Jvm.LawKit.callS X2 hx (y := (⟨"com/example/heirloom_archive/heirloomarchive/model/Text", "isWhiteSpace", "(C)Z"⟩ : MethodName)) hown (mvT hZ (hw _ (om 87 rfl))) (mvT hZ (hw _ (om 88 rfl))) (mvT hZ (hw _ (om 32 rfl))) (mvT hZ (hw _ (om 89 rfl))) (by decide) (backOf (W := 0) (rmws l Z a0 hw [] c0 h0 n0 Z0) hZ (hw _ (om 89 rfl)) (hw _ (om 32 rfl)) (by decide) (by decide)) (g := (mkF m 19 #[.val (.ref a), .val (.int (0 : Int32))] [(.int c0)])) rfl (by rw [hml]; rfl) (argsL := [(.int c0)]) (rest := []) (lenOf pd_6__C_Z rfl) rfl (by show 2 * 0 + _ ≤ _; exact Nat.le_of_eq rfl) (hb hby d6_19) (fun _ _ => ⟨rfl, eh2, (by decide : 0 + 0 ≤ _), (by decide : 0 + 0 ≤ _)⟩)
  dsimp only [Pt.U, Pt.locs, Pt.cells, Pt.slots] at X3 l3 y3 z3 st3 hQ3
  subst l3 y3 z3
  obtain ⟨rfl, Nq3, eh3⟩ := hQ3
  have N3 := Fr.app N2 Nq3
  refine Goes.on (B := T3.setTop (mkF m 22 #[.val (.ref a), .val (.int (0 : Int32))] [(.int (own_ws c0))])) (fun t k => st3 t k) ?_
  by_cases hc22_4 : (own_ws c0) = (0 : Int32)
  · refine Goes.on (B := T3.setTop (mkF m 26 #[.val (.ref a), .val (.int (0 : Int32))] [(.int (0 : Int32))])) (fun _ k => XS.ifNo X3.here hx rfl (hb hby d6_22) rfl ((if0 _ _).trans (teq hc22_4).2) (XS.iconst X3.here hx rfl (hb hby d6_25) k)) ?_
    obtain ⟨fs, hr, hrun, hended, hW, hsame⟩ := X3.leave (v := some (.int (0 : Int32))) (fun h => by rw [Bd.returns] at h; cases h)
    exact Goes.leaf (retN X3 hx (t := .boolean) Bd.returns (by simp) (hb hby d6_26) hr) hrun hended ⟨_, _, rfl, by show Qiw3 Z a c0 c1 c2 h0 n0 _ T3.heap _; rw [eh3]; exact ⟨by rw [own_iw3, if_pos hc22_4], N3, rfl⟩, ⟨_, rfl⟩, hW, hsame.mono (by decide) (by decide)⟩
  · refine Goes.on (B := T3.setTop (mkF m 4 #[.val (.ref a), .val (.int (1 : Int32))] [(.ref a), (.int (1 : Int32))])) (fun _ k => XS.ifYes X3.here hx rfl (pc0 := 22) (pc' := 27) rfl (hb hby d6_22) rfl ((if0 _ _).trans (feq hc22_4).2) (by decide) (by decide) (XS.iinc X3.here hx rfl (hb hby d6_27) rfl (l' := #[.val (.ref a), .val (.int (1 : Int32))]) rfl (XS.goto X3.here hx rfl (pc0 := 30) (pc' := 2) rfl (hb hby d6_30) (by decide) (by decide) (XS.iloadN X3.here hx rfl (hb hby d6_2) rfl  (XS.aloadN X3.here hx rfl (hb hby d6_3) rfl rfl  k))))) ?_
    obtain ⟨cq5, kq5, q5a, q5b, q5c⟩ := isOf hZ eh3 EX
    obtain ⟨_, _, ⟨T5, L5, k5, n5⟩, -, X5, ⟨Lc5, hQ5, l5, y5, z5⟩, st5⟩ := X3.interfaceBack hx (xi := (⟨"java/lang/CharSequence", "length", "()I"⟩ : MethodName)) (y := (⟨"java/lang/String", "length", "()I"⟩ : MethodName)) hown (mvT hZ (hw _ (om 34 rfl))) (mvT hZ (hw _ (om 35 rfl))) (mvT hZ (hw _ (om 36 rfl))) (mvT hZ (hw _ (om 37 rfl))) (mvT hZ (hw _ (om 38 rfl))) (mvT hZ (hw _ (om 39 rfl))) (mvT hZ (hw _ (om 40 rfl))) (mvT hZ (hw _ (om 41 rfl))) (by decide) (HL _ _ _ _ _ _ _ 1 hZ (by decide) (by decide)) q5a q5b q5c (g := (mkF m 4 #[.val (.ref a), .val (.int (1 : Int32))] [(.ref a), (.int (1 : Int32))])) rfl (by rw [hml]; rfl) (Steps.refl _) (argsL := []) (rest := [(.int (1 : Int32))]) (lenOf pd_6___I rfl) rfl (by show 2 * 0 + _ ≤ _; exact Nat.le_of_eq rfl) (hb hby d6_4) (fun _ _ => ⟨rfl, eh3, (by decide : 0 + 0 ≤ _), (by decide : 0 + 0 ≤ _)⟩)
    dsimp only [Pt.U, Pt.locs, Pt.cells, Pt.slots] at X5 l5 y5 z5 st5 hQ5
    subst l5 y5 z5
    obtain ⟨rfl, Nq5, eh5⟩ := hQ5
    have N5 := Fr.app N3 Nq5
    refine Goes.on (B := T5.setTop (mkF m 9 #[.val (.ref a), .val (.int (1 : Int32))] [(.int (3 : Int32)), (.int (1 : Int32))])) (fun t k => st5.trans k) ?_
    refine Goes.on (B := T5.setTop (mkF m 14 #[.val (.ref a), .val (.int (1 : Int32))] [(.int (1 : Int32)), (.ref a)])) (fun _ k => XS.icmpNo X5.here hx rfl (hb hby d6_9) rfl (tlt (by decide)).2.1 (XS.aloadN X5.here hx rfl (hb hby d6_12) rfl rfl  (XS.iloadN X5.here hx rfl (hb hby d6_13) rfl  k))) ?_
    obtain ⟨cq6, kq6, q6a, q6b, q6c⟩ := isOf hZ eh5 EX
    obtain ⟨_, _, ⟨T6, L6, k6, n6⟩, -, X6, ⟨Lc6, hQ6, l6, y6, z6⟩, st6⟩ := X5.interfaceBack hx (xi := (⟨"java/lang/CharSequence", "charAt", "(I)C"⟩ : MethodName)) (y := (⟨"java/lang/String", "charAt", "(I)C"⟩ : MethodName)) hown (mvT hZ (hw _ (om 62 rfl))) (mvT hZ (hw _ (om 63 rfl))) (mvT hZ (hw _ (om 64 rfl))) (mvT hZ (hw _ (om 65 rfl))) (mvT hZ (hw _ (om 66 rfl))) (mvT hZ (hw _ (om 67 rfl))) (mvT hZ (hw _ (om 68 rfl))) (mvT hZ (hw _ (om 41 rfl))) (by decide) (H1 _ _ _ _ _ _ _ 0 hZ (by decide) (by decide)) q6a q6b q6c (g := (mkF m 14 #[.val (.ref a), .val (.int (1 : Int32))] [(.int (1 : Int32)), (.ref a)])) rfl (by rw [hml]; rfl) (Steps.refl _) (argsL := [(.int (1 : Int32))]) (rest := []) (lenOf pd_6__I_C rfl) rfl (by show 2 * 0 + _ ≤ _; exact Nat.le_of_eq rfl) (hb hby d6_14) (fun _ _ => ⟨rfl, eh5, (by decide : 0 + 0 ≤ _), (by decide : 0 + 0 ≤ _)⟩)
    dsimp only [Pt.U, Pt.locs, Pt.cells, Pt.slots] at X6 l6 y6 z6 st6 hQ6
    subst l6 y6 z6
    obtain ⟨rfl, Nq6, eh6⟩ := hQ6
    have N6 := Fr.app N5 Nq6
    refine Goes.on (B := T6.setTop (mkF m 19 #[.val (.ref a), .val (.int (1 : Int32))] [(.int c1)])) (fun t k => st6.trans k) ?_
    obtain ⟨_, _, ⟨T7, L7, k7, n7⟩, -, X7, ⟨Lc7, hQ7, l7, y7, z7⟩, st7⟩ := Jvm.LawKit.callS X6 hx (y := (⟨"com/example/heirloom_archive/heirloomarchive/model/Text", "isWhiteSpace", "(C)Z"⟩ : MethodName)) hown (mvT hZ (hw _ (om 87 rfl))) (mvT hZ (hw _ (om 88 rfl))) (mvT hZ (hw _ (om 32 rfl))) (mvT hZ (hw _ (om 89 rfl))) (by decide) (backOf (W := 0) (rmws l Z a0 hw [] c1 h0 n0 Z0) hZ (hw _ (om 89 rfl)) (hw _ (om 32 rfl)) (by decide) (by decide)) (g := (mkF m 19 #[.val (.ref a), .val (.int (1 : Int32))] [(.int c1)])) rfl (by rw [hml]; rfl) (argsL := [(.int c1)]) (rest := []) (lenOf pd_6__C_Z rfl) rfl (by show 2 * 0 + _ ≤ _; exact Nat.le_of_eq rfl) (hb hby d6_19) (fun _ _ => ⟨rfl, eh6, (by decide : 0 + 0 ≤ _), (by decide : 0 + 0 ≤ _)⟩)
    dsimp only [Pt.U, Pt.locs, Pt.cells, Pt.slots] at X7 l7 y7 z7 st7 hQ7
    subst l7 y7 z7
    obtain ⟨rfl, Nq7, eh7⟩ := hQ7
    have N7 := Fr.app N6 Nq7
    refine Goes.on (B := T7.setTop (mkF m 22 #[.val (.ref a), .val (.int (1 : Int32))] [(.int (own_ws c1))])) (fun t k => st7 t k) ?_
    by_cases hc22_8 : (own_ws c1) = (0 : Int32)
    · refine Goes.on (B := T7.setTop (mkF m 26 #[.val (.ref a), .val (.int (1 : Int32))] [(.int (0 : Int32))])) (fun _ k => XS.ifNo X7.here hx rfl (hb hby d6_22) rfl ((if0 _ _).trans (teq hc22_8).2) (XS.iconst X7.here hx rfl (hb hby d6_25) k)) ?_
      obtain ⟨fs, hr, hrun, hended, hW, hsame⟩ := X7.leave (v := some (.int (0 : Int32))) (fun h => by rw [Bd.returns] at h; cases h)
      exact Goes.leaf (retN X7 hx (t := .boolean) Bd.returns (by simp) (hb hby d6_26) hr) hrun hended ⟨_, _, rfl, by show Qiw3 Z a c0 c1 c2 h0 n0 _ T7.heap _; rw [eh7]; exact ⟨by rw [own_iw3, if_neg hc22_4, if_pos hc22_8], N7, rfl⟩, ⟨_, rfl⟩, hW, hsame.mono (by decide) (by decide)⟩
    · refine Goes.on (B := T7.setTop (mkF m 4 #[.val (.ref a), .val (.int (2 : Int32))] [(.ref a), (.int (2 : Int32))])) (fun _ k => XS.ifYes X7.here hx rfl (pc0 := 22) (pc' := 27) rfl (hb hby d6_22) rfl ((if0 _ _).trans (feq hc22_8).2) (by decide) (by decide) (XS.iinc X7.here hx rfl (hb hby d6_27) rfl (l' := #[.val (.ref a), .val (.int (2 : Int32))]) rfl (XS.goto X7.here hx rfl (pc0 := 30) (pc' := 2) rfl (hb hby d6_30) (by decide) (by decide) (XS.iloadN X7.here hx rfl (hb hby d6_2) rfl  (XS.aloadN X7.here hx rfl (hb hby d6_3) rfl rfl  k))))) ?_
      obtain ⟨cq9, kq9, q9a, q9b, q9c⟩ := isOf hZ eh7 EX
      obtain ⟨_, _, ⟨T9, L9, k9, n9⟩, -, X9, ⟨Lc9, hQ9, l9, y9, z9⟩, st9⟩ := X7.interfaceBack hx (xi := (⟨"java/lang/CharSequence", "length", "()I"⟩ : MethodName)) (y := (⟨"java/lang/String", "length", "()I"⟩ : MethodName)) hown (mvT hZ (hw _ (om 34 rfl))) (mvT hZ (hw _ (om 35 rfl))) (mvT hZ (hw _ (om 36 rfl))) (mvT hZ (hw _ (om 37 rfl))) (mvT hZ (hw _ (om 38 rfl))) (mvT hZ (hw _ (om 39 rfl))) (mvT hZ (hw _ (om 40 rfl))) (mvT hZ (hw _ (om 41 rfl))) (by decide) (HL _ _ _ _ _ _ _ 1 hZ (by decide) (by decide)) q9a q9b q9c (g := (mkF m 4 #[.val (.ref a), .val (.int (2 : Int32))] [(.ref a), (.int (2 : Int32))])) rfl (by rw [hml]; rfl) (Steps.refl _) (argsL := []) (rest := [(.int (2 : Int32))]) (lenOf pd_6___I rfl) rfl (by show 2 * 0 + _ ≤ _; exact Nat.le_of_eq rfl) (hb hby d6_4) (fun _ _ => ⟨rfl, eh7, (by decide : 0 + 0 ≤ _), (by decide : 0 + 0 ≤ _)⟩)
      dsimp only [Pt.U, Pt.locs, Pt.cells, Pt.slots] at X9 l9 y9 z9 st9 hQ9
      subst l9 y9 z9
      obtain ⟨rfl, Nq9, eh9⟩ := hQ9
      have N9 := Fr.app N7 Nq9
      refine Goes.on (B := T9.setTop (mkF m 9 #[.val (.ref a), .val (.int (2 : Int32))] [(.int (3 : Int32)), (.int (2 : Int32))])) (fun t k => st9.trans k) ?_
      refine Goes.on (B := T9.setTop (mkF m 14 #[.val (.ref a), .val (.int (2 : Int32))] [(.int (2 : Int32)), (.ref a)])) (fun _ k => XS.icmpNo X9.here hx rfl (hb hby d6_9) rfl (tlt (by decide)).2.1 (XS.aloadN X9.here hx rfl (hb hby d6_12) rfl rfl  (XS.iloadN X9.here hx rfl (hb hby d6_13) rfl  k))) ?_
      obtain ⟨cq10, kq10, q10a, q10b, q10c⟩ := isOf hZ eh9 EX
      obtain ⟨_, _, ⟨T10, L10, k10, n10⟩, -, X10, ⟨Lc10, hQ10, l10, y10, z10⟩, st10⟩ := X9.interfaceBack hx (xi := (⟨"java/lang/CharSequence", "charAt", "(I)C"⟩ : MethodName)) (y := (⟨"java/lang/String", "charAt", "(I)C"⟩ : MethodName)) hown (mvT hZ (hw _ (om 62 rfl))) (mvT hZ (hw _ (om 63 rfl))) (mvT hZ (hw _ (om 64 rfl))) (mvT hZ (hw _ (om 65 rfl))) (mvT hZ (hw _ (om 66 rfl))) (mvT hZ (hw _ (om 67 rfl))) (mvT hZ (hw _ (om 68 rfl))) (mvT hZ (hw _ (om 41 rfl))) (by decide) (H2 _ _ _ _ _ _ _ 0 hZ (by decide) (by decide)) q10a q10b q10c (g := (mkF m 14 #[.val (.ref a), .val (.int (2 : Int32))] [(.int (2 : Int32)), (.ref a)])) rfl (by rw [hml]; rfl) (Steps.refl _) (argsL := [(.int (2 : Int32))]) (rest := []) (lenOf pd_6__I_C rfl) rfl (by show 2 * 0 + _ ≤ _; exact Nat.le_of_eq rfl) (hb hby d6_14) (fun _ _ => ⟨rfl, eh9, (by decide : 0 + 0 ≤ _), (by decide : 0 + 0 ≤ _)⟩)
      dsimp only [Pt.U, Pt.locs, Pt.cells, Pt.slots] at X10 l10 y10 z10 st10 hQ10
      subst l10 y10 z10
      obtain ⟨rfl, Nq10, eh10⟩ := hQ10
      have N10 := Fr.app N9 Nq10
      refine Goes.on (B := T10.setTop (mkF m 19 #[.val (.ref a), .val (.int (2 : Int32))] [(.int c2)])) (fun t k => st10.trans k) ?_
      obtain ⟨_, _, ⟨T11, L11, k11, n11⟩, -, X11, ⟨Lc11, hQ11, l11, y11, z11⟩, st11⟩ := Jvm.LawKit.callS X10 hx (y := (⟨"com/example/heirloom_archive/heirloomarchive/model/Text", "isWhiteSpace", "(C)Z"⟩ : MethodName)) hown (mvT hZ (hw _ (om 87 rfl))) (mvT hZ (hw _ (om 88 rfl))) (mvT hZ (hw _ (om 32 rfl))) (mvT hZ (hw _ (om 89 rfl))) (by decide) (backOf (W := 0) (rmws l Z a0 hw [] c2 h0 n0 Z0) hZ (hw _ (om 89 rfl)) (hw _ (om 32 rfl)) (by decide) (by decide)) (g := (mkF m 19 #[.val (.ref a), .val (.int (2 : Int32))] [(.int c2)])) rfl (by rw [hml]; rfl) (argsL := [(.int c2)]) (rest := []) (lenOf pd_6__C_Z rfl) rfl (by show 2 * 0 + _ ≤ _; exact Nat.le_of_eq rfl) (hb hby d6_19) (fun _ _ => ⟨rfl, eh10, (by decide : 0 + 0 ≤ _), (by decide : 0 + 0 ≤ _)⟩)
      dsimp only [Pt.U, Pt.locs, Pt.cells, Pt.slots] at X11 l11 y11 z11 st11 hQ11
      subst l11 y11 z11
      obtain ⟨rfl, Nq11, eh11⟩ := hQ11
      have N11 := Fr.app N10 Nq11
      refine Goes.on (B := T11.setTop (mkF m 22 #[.val (.ref a), .val (.int (2 : Int32))] [(.int (own_ws c2))])) (fun t k => st11 t k) ?_
      by_cases hc22_12 : (own_ws c2) = (0 : Int32)
      · refine Goes.on (B := T11.setTop (mkF m 26 #[.val (.ref a), .val (.int (2 : Int32))] [(.int (0 : Int32))])) (fun _ k => XS.ifNo X11.here hx rfl (hb hby d6_22) rfl ((if0 _ _).trans (teq hc22_12).2) (XS.iconst X11.here hx rfl (hb hby d6_25) k)) ?_
        obtain ⟨fs, hr, hrun, hended, hW, hsame⟩ := X11.leave (v := some (.int (0 : Int32))) (fun h => by rw [Bd.returns] at h; cases h)
        exact Goes.leaf (retN X11 hx (t := .boolean) Bd.returns (by simp) (hb hby d6_26) hr) hrun hended ⟨_, _, rfl, by show Qiw3 Z a c0 c1 c2 h0 n0 _ T11.heap _; rw [eh11]; exact ⟨by rw [own_iw3, if_neg hc22_4, if_neg hc22_8, if_pos hc22_12], N11, rfl⟩, ⟨_, rfl⟩, hW, hsame.mono (by decide) (by decide)⟩
      · refine Goes.on (B := T11.setTop (mkF m 4 #[.val (.ref a), .val (.int (3 : Int32))] [(.ref a), (.int (3 : Int32))])) (fun _ k => XS.ifYes X11.here hx rfl (pc0 := 22) (pc' := 27) rfl (hb hby d6_22) rfl ((if0 _ _).trans (feq hc22_12).2) (by decide) (by decide) (XS.iinc X11.here hx rfl (hb hby d6_27) rfl (l' := #[.val (.ref a), .val (.int (3 : Int32))]) rfl (XS.goto X11.here hx rfl (pc0 := 30) (pc' := 2) rfl (hb hby d6_30) (by decide) (by decide) (XS.iloadN X11.here hx rfl (hb hby d6_2) rfl  (XS.aloadN X11.here hx rfl (hb hby d6_3) rfl rfl  k))))) ?_
        obtain ⟨cq13, kq13, q13a, q13b, q13c⟩ := isOf hZ eh11 EX
        obtain ⟨_, _, ⟨T13, L13, k13, n13⟩, -, X13, ⟨Lc13, hQ13, l13, y13, z13⟩, st13⟩ := X11.interfaceBack hx (xi := (⟨"java/lang/CharSequence", "length", "()I"⟩ : MethodName)) (y := (⟨"java/lang/String", "length", "()I"⟩ : MethodName)) hown (mvT hZ (hw _ (om 34 rfl))) (mvT hZ (hw _ (om 35 rfl))) (mvT hZ (hw _ (om 36 rfl))) (mvT hZ (hw _ (om 37 rfl))) (mvT hZ (hw _ (om 38 rfl))) (mvT hZ (hw _ (om 39 rfl))) (mvT hZ (hw _ (om 40 rfl))) (mvT hZ (hw _ (om 41 rfl))) (by decide) (HL _ _ _ _ _ _ _ 1 hZ (by decide) (by decide)) q13a q13b q13c (g := (mkF m 4 #[.val (.ref a), .val (.int (3 : Int32))] [(.ref a), (.int (3 : Int32))])) rfl (by rw [hml]; rfl) (Steps.refl _) (argsL := []) (rest := [(.int (3 : Int32))]) (lenOf pd_6___I rfl) rfl (by show 2 * 0 + _ ≤ _; exact Nat.le_of_eq rfl) (hb hby d6_4) (fun _ _ => ⟨rfl, eh11, (by decide : 0 + 0 ≤ _), (by decide : 0 + 0 ≤ _)⟩)
        dsimp only [Pt.U, Pt.locs, Pt.cells, Pt.slots] at X13 l13 y13 z13 st13 hQ13
        subst l13 y13 z13
        obtain ⟨rfl, Nq13, eh13⟩ := hQ13
        have N13 := Fr.app N11 Nq13
        refine Goes.on (B := T13.setTop (mkF m 9 #[.val (.ref a), .val (.int (3 : Int32))] [(.int (3 : Int32)), (.int (3 : Int32))])) (fun t k => st13.trans k) ?_
        refine Goes.on (B := T13.setTop (mkF m 34 #[.val (.ref a), .val (.int (3 : Int32))] [(.int (1 : Int32))])) (fun _ k => XS.icmpYes X13.here hx rfl (pc0 := 9) (pc' := 33) rfl (hb hby d6_9) rfl (flt (by decide)).2.1 (by decide) (by decide) (XS.iconst X13.here hx rfl (hb hby d6_33) k)) ?_
        obtain ⟨fs, hr, hrun, hended, hW, hsame⟩ := X13.leave (v := some (.int (1 : Int32))) (fun h => by rw [Bd.returns] at h; cases h)
        exact Goes.leaf (retN X13 hx (t := .boolean) Bd.returns (by simp) (hb hby d6_34) hr) hrun hended ⟨_, _, rfl, by show Qiw3 Z a c0 c1 c2 h0 n0 _ T13.heap _; rw [eh13]; exact ⟨by rw [own_iw3, if_neg hc22_4, if_neg hc22_8, if_neg hc22_12], N13, rfl⟩, ⟨_, rfl⟩, hW, hsame.mono (by decide) (by decide)⟩
theorem ef_iw4 (m : MethodId) (x0 : Addr) : entryFrame m #[(.ref x0)] 2 = mkF m 0 #[.val (.ref x0), .unset] [] := by first | (simp [entryFrame, mkF, argsToLocals, Value.category]; done) | rfl
def Qiw4 (Z : State) (a : Addr) (c0 c1 c2 c3 : Int32) (h0 : Heap) (n0 : Nat) (v : Option Value) (h : Heap) (L : List Loc) : Prop := v = some (.int (own_iw4 c0 c1 c2 c3)) ∧ Fr n0 L ∧ h = h0
set_option maxRecDepth 65536 in
set_option maxHeartbeats 40000000 in
theorem rmiw4 (l : Launch) (Z : State) (a0 : Array Value) (hw : ∀ d ∈ tables_1, d.before a0 Z = true) (ws : List Jvm.Cond) (a : Addr) (c0 c1 c2 c3 : Int32) (h0 : Heap) (n0 : Nat) (Z0 : n0 ≤ h0.size) (EX : Exa Z h0 a "java/lang/String") (HL : own_BL l Z h0 n0 (⟨"java/lang/String", "length", "()I"⟩ : MethodName) #[.ref a] (4 : Int32)) (H0 : own_BL l Z h0 n0 (⟨"java/lang/String", "charAt", "(I)C"⟩ : MethodName) #[.ref a, .int (0 : Int32)] c0) (H1 : own_BL l Z h0 n0 (⟨"java/lang/String", "charAt", "(I)C"⟩ : MethodName) #[.ref a, .int (1 : Int32)] c1) (H2 : own_BL l Z h0 n0 (⟨"java/lang/String", "charAt", "(I)C"⟩ : MethodName) #[.ref a, .int (2 : Int32)] c2) (H3 : own_BL l Z h0 n0 (⟨"java/lang/String", "charAt", "(I)C"⟩ : MethodName) #[.ref a, .int (3 : Int32)] c3) :
    MetFree l (⟨"com/example/heirloom_archive/heirloomarchive/model/Text", "isWhiteSpace", "(Ljava/lang/CharSequence;)Z"⟩ : MethodName) (head1 (Jvm.Cond.code (⟨"com/example/heirloom_archive/heirloomarchive/model/Text", "isWhiteSpace", "(Ljava/lang/CharSequence;)Z"⟩ : MethodName) prog_97_method_2_code 2 (some .boolean) :: ws) ({ frames := 6, cells := 0, slots := 0, locals := 80 } : Room)) (fun aa U => aa = #[(.ref a)] ∧ Z.Warmed39 U.vm ∧ U.heap = h0) (fun _ _ _ _ _ => True) (fun _ U oo U' => ∃ vv LL, oo = .returned vv ∧ Qiw4 Z a c0 c1 c2 c3 h0 n0 vv U'.heap LL ∧ FrameEnd U oo U' LL ({ frames := 6, cells := 0, slots := 0, locals := 80 } : Room).cells ({ frames := 6, cells := 0, slots := 0, locals := 80 } : Room).slots) := by
  refine MetFree.of_bodySF (plainFor_of_name pn_6) hisR ?_
  intro p e s m args below meth c s₁ Bd hml0 hP hK
  obtain ⟨rfl, hZ, hh⟩ := hP
  have hx := Bd.exec
  have hby := Bd.bytes
  have hml : c.maxLocals = 2 := hml0
  have hown : s.vm.findClass "com/example/heirloom_archive/heirloomarchive/model/Text" = some m.cls := findClass_of_methodNamed Bd.named
  have hnm := (name_of_methodNamed Bd.named Bd.method).1
  have X0 : Stand p l e ({ frames := 6, cells := 0, slots := 0, locals := 80 } : Room) s m #[(.ref a)] below meth c s₁ [] 0 0 := Stand.of_body Bd
  have e0 : s₁.heap = h0 := by rw [← hh, Bd.state]; rfl
  have N0 := Fr.nil n0
  show Goes p e below _ (s₁.setTop (entryFrame m #[(.ref a)] 2))
  refine Goes.on (B := s₁.setTop (mkF m 0 #[.val (.ref a), .unset] [])) (fun t k => castTop (ef_iw4 m a) k) ?_
  refine Goes.on (B := s₁.setTop (mkF m 4 #[.val (.ref a), .val (.int (0 : Int32))] [(.ref a), (.int (0 : Int32))])) (fun _ k => XS.iconst X0.here hx rfl (hb hby d6_0) (XS.istoreN X0.here hx rfl (hb hby d6_1) rfl (l' := #[.val (.ref a), .val (.int (0 : Int32))]) rfl (XS.iloadN X0.here hx rfl (hb hby d6_2) rfl  (XS.aloadN X0.here hx rfl (hb hby d6_3) rfl rfl  k)))) ?_
  obtain ⟨cq1, kq1, q1a, q1b, q1c⟩ := isOf hZ e0 EX
  obtain ⟨_, _, ⟨T1, L1, k1, n1⟩, -, X1, ⟨Lc1, hQ1, l1, y1, z1⟩, st1⟩ := X0.interfaceBack hx (xi := (⟨"java/lang/CharSequence", "length", "()I"⟩ : MethodName)) (y := (⟨"java/lang/String", "length", "()I"⟩ : MethodName)) hown (mvT hZ (hw _ (om 34 rfl))) (mvT hZ (hw _ (om 35 rfl))) (mvT hZ (hw _ (om 36 rfl))) (mvT hZ (hw _ (om 37 rfl))) (mvT hZ (hw _ (om 38 rfl))) (mvT hZ (hw _ (om 39 rfl))) (mvT hZ (hw _ (om 40 rfl))) (mvT hZ (hw _ (om 41 rfl))) (by decide) (HL _ _ _ _ _ _ _ 1 hZ (by decide) (by decide)) q1a q1b q1c (g := (mkF m 4 #[.val (.ref a), .val (.int (0 : Int32))] [(.ref a), (.int (0 : Int32))])) rfl (by rw [hml]; rfl) (Steps.refl _) (argsL := []) (rest := [(.int (0 : Int32))]) (lenOf pd_6___I rfl) rfl (by show 2 * 0 + _ ≤ _; exact Nat.le_of_eq rfl) (hb hby d6_4) (fun _ _ => ⟨rfl, e0, (by decide : 0 + 0 ≤ _), (by decide : 0 + 0 ≤ _)⟩)
  dsimp only [Pt.U, Pt.locs, Pt.cells, Pt.slots] at X1 l1 y1 z1 st1 hQ1
  subst l1 y1 z1
  obtain ⟨rfl, Nq1, eh1⟩ := hQ1
  have N1 := Fr.app N0 Nq1
  refine Goes.on (B := T1.setTop (mkF m 9 #[.val (.ref a), .val (.int (0 : Int32))] [(.int (4 : Int32)), (.int (0 : Int32))])) (fun t k => st1.trans k) ?_
  refine Goes.on (B := T1.setTop (mkF m 14 #[.val (.ref a), .val (.int (0 : Int32))] [(.int (0 : Int32)), (.ref a)])) (fun _ k => XS.icmpNo X1.here hx rfl (hb hby d6_9) rfl (tlt (by decide)).2.1 (XS.aloadN X1.here hx rfl (hb hby d6_12) rfl rfl  (XS.iloadN X1.here hx rfl (hb hby d6_13) rfl  k))) ?_
  obtain ⟨cq2, kq2, q2a, q2b, q2c⟩ := isOf hZ eh1 EX
  obtain ⟨_, _, ⟨T2, L2, k2, n2⟩, -, X2, ⟨Lc2, hQ2, l2, y2, z2⟩, st2⟩ := X1.interfaceBack hx (xi := (⟨"java/lang/CharSequence", "charAt", "(I)C"⟩ : MethodName)) (y := (⟨"java/lang/String", "charAt", "(I)C"⟩ : MethodName)) hown (mvT hZ (hw _ (om 62 rfl))) (mvT hZ (hw _ (om 63 rfl))) (mvT hZ (hw _ (om 64 rfl))) (mvT hZ (hw _ (om 65 rfl))) (mvT hZ (hw _ (om 66 rfl))) (mvT hZ (hw _ (om 67 rfl))) (mvT hZ (hw _ (om 68 rfl))) (mvT hZ (hw _ (om 41 rfl))) (by decide) (H0 _ _ _ _ _ _ _ 0 hZ (by decide) (by decide)) q2a q2b q2c (g := (mkF m 14 #[.val (.ref a), .val (.int (0 : Int32))] [(.int (0 : Int32)), (.ref a)])) rfl (by rw [hml]; rfl) (Steps.refl _) (argsL := [(.int (0 : Int32))]) (rest := []) (lenOf pd_6__I_C rfl) rfl (by show 2 * 0 + _ ≤ _; exact Nat.le_of_eq rfl) (hb hby d6_14) (fun _ _ => ⟨rfl, eh1, (by decide : 0 + 0 ≤ _), (by decide : 0 + 0 ≤ _)⟩)
  dsimp only [Pt.U, Pt.locs, Pt.cells, Pt.slots] at X2 l2 y2 z2 st2 hQ2
  subst l2 y2 z2
  obtain ⟨rfl, Nq2, eh2⟩ := hQ2
  have N2 := Fr.app N1 Nq2
  refine Goes.on (B := T2.setTop (mkF m 19 #[.val (.ref a), .val (.int (0 : Int32))] [(.int c0)])) (fun t k => st2.trans k) ?_
  obtain ⟨_, _, ⟨T3, L3, k3, n3⟩, -, X3, ⟨Lc3, hQ3, l3, y3, z3⟩, st3⟩ := Jvm.LawKit.callS X2 hx (y := (⟨"com/example/heirloom_archive/heirloomarchive/model/Text", "isWhiteSpace", "(C)Z"⟩ : MethodName)) hown (mvT hZ (hw _ (om 87 rfl))) (mvT hZ (hw _ (om 88 rfl))) (mvT hZ (hw _ (om 32 rfl))) (mvT hZ (hw _ (om 89 rfl))) (by decide) (backOf (W := 0) (rmws l Z a0 hw [] c0 h0 n0 Z0) hZ (hw _ (om 89 rfl)) (hw _ (om 32 rfl)) (by decide) (by decide)) (g := (mkF m 19 #[.val (.ref a), .val (.int (0 : Int32))] [(.int c0)])) rfl (by rw [hml]; rfl) (argsL := [(.int c0)]) (rest := []) (lenOf pd_6__C_Z rfl) rfl (by show 2 * 0 + _ ≤ _; exact Nat.le_of_eq rfl) (hb hby d6_19) (fun _ _ => ⟨rfl, eh2, (by decide : 0 + 0 ≤ _), (by decide : 0 + 0 ≤ _)⟩)
  dsimp only [Pt.U, Pt.locs, Pt.cells, Pt.slots] at X3 l3 y3 z3 st3 hQ3
  subst l3 y3 z3
  obtain ⟨rfl, Nq3, eh3⟩ := hQ3
  have N3 := Fr.app N2 Nq3
  refine Goes.on (B := T3.setTop (mkF m 22 #[.val (.ref a), .val (.int (0 : Int32))] [(.int (own_ws c0))])) (fun t k => st3 t k) ?_
  by_cases hc22_4 : (own_ws c0) = (0 : Int32)
  · refine Goes.on (B := T3.setTop (mkF m 26 #[.val (.ref a), .val (.int (0 : Int32))] [(.int (0 : Int32))])) (fun _ k => XS.ifNo X3.here hx rfl (hb hby d6_22) rfl ((if0 _ _).trans (teq hc22_4).2) (XS.iconst X3.here hx rfl (hb hby d6_25) k)) ?_
    obtain ⟨fs, hr, hrun, hended, hW, hsame⟩ := X3.leave (v := some (.int (0 : Int32))) (fun h => by rw [Bd.returns] at h; cases h)
    exact Goes.leaf (retN X3 hx (t := .boolean) Bd.returns (by simp) (hb hby d6_26) hr) hrun hended ⟨_, _, rfl, by show Qiw4 Z a c0 c1 c2 c3 h0 n0 _ T3.heap _; rw [eh3]; exact ⟨by rw [own_iw4, if_pos hc22_4], N3, rfl⟩, ⟨_, rfl⟩, hW, hsame.mono (by decide) (by decide)⟩
  · refine Goes.on (B := T3.setTop (mkF m 4 #[.val (.ref a), .val (.int (1 : Int32))] [(.ref a), (.int (1 : Int32))])) (fun _ k => XS.ifYes X3.here hx rfl (pc0 := 22) (pc' := 27) rfl (hb hby d6_22) rfl ((if0 _ _).trans (feq hc22_4).2) (by decide) (by decide) (XS.iinc X3.here hx rfl (hb hby d6_27) rfl (l' := #[.val (.ref a), .val (.int (1 : Int32))]) rfl (XS.goto X3.here hx rfl (pc0 := 30) (pc' := 2) rfl (hb hby d6_30) (by decide) (by decide) (XS.iloadN X3.here hx rfl (hb hby d6_2) rfl  (XS.aloadN X3.here hx rfl (hb hby d6_3) rfl rfl  k))))) ?_
    obtain ⟨cq5, kq5, q5a, q5b, q5c⟩ := isOf hZ eh3 EX
    obtain ⟨_, _, ⟨T5, L5, k5, n5⟩, -, X5, ⟨Lc5, hQ5, l5, y5, z5⟩, st5⟩ := X3.interfaceBack hx (xi := (⟨"java/lang/CharSequence", "length", "()I"⟩ : MethodName)) (y := (⟨"java/lang/String", "length", "()I"⟩ : MethodName)) hown (mvT hZ (hw _ (om 34 rfl))) (mvT hZ (hw _ (om 35 rfl))) (mvT hZ (hw _ (om 36 rfl))) (mvT hZ (hw _ (om 37 rfl))) (mvT hZ (hw _ (om 38 rfl))) (mvT hZ (hw _ (om 39 rfl))) (mvT hZ (hw _ (om 40 rfl))) (mvT hZ (hw _ (om 41 rfl))) (by decide) (HL _ _ _ _ _ _ _ 1 hZ (by decide) (by decide)) q5a q5b q5c (g := (mkF m 4 #[.val (.ref a), .val (.int (1 : Int32))] [(.ref a), (.int (1 : Int32))])) rfl (by rw [hml]; rfl) (Steps.refl _) (argsL := []) (rest := [(.int (1 : Int32))]) (lenOf pd_6___I rfl) rfl (by show 2 * 0 + _ ≤ _; exact Nat.le_of_eq rfl) (hb hby d6_4) (fun _ _ => ⟨rfl, eh3, (by decide : 0 + 0 ≤ _), (by decide : 0 + 0 ≤ _)⟩)
    dsimp only [Pt.U, Pt.locs, Pt.cells, Pt.slots] at X5 l5 y5 z5 st5 hQ5
    subst l5 y5 z5
    obtain ⟨rfl, Nq5, eh5⟩ := hQ5
    have N5 := Fr.app N3 Nq5
    refine Goes.on (B := T5.setTop (mkF m 9 #[.val (.ref a), .val (.int (1 : Int32))] [(.int (4 : Int32)), (.int (1 : Int32))])) (fun t k => st5.trans k) ?_
    refine Goes.on (B := T5.setTop (mkF m 14 #[.val (.ref a), .val (.int (1 : Int32))] [(.int (1 : Int32)), (.ref a)])) (fun _ k => XS.icmpNo X5.here hx rfl (hb hby d6_9) rfl (tlt (by decide)).2.1 (XS.aloadN X5.here hx rfl (hb hby d6_12) rfl rfl  (XS.iloadN X5.here hx rfl (hb hby d6_13) rfl  k))) ?_
    obtain ⟨cq6, kq6, q6a, q6b, q6c⟩ := isOf hZ eh5 EX
    obtain ⟨_, _, ⟨T6, L6, k6, n6⟩, -, X6, ⟨Lc6, hQ6, l6, y6, z6⟩, st6⟩ := X5.interfaceBack hx (xi := (⟨"java/lang/CharSequence", "charAt", "(I)C"⟩ : MethodName)) (y := (⟨"java/lang/String", "charAt", "(I)C"⟩ : MethodName)) hown (mvT hZ (hw _ (om 62 rfl))) (mvT hZ (hw _ (om 63 rfl))) (mvT hZ (hw _ (om 64 rfl))) (mvT hZ (hw _ (om 65 rfl))) (mvT hZ (hw _ (om 66 rfl))) (mvT hZ (hw _ (om 67 rfl))) (mvT hZ (hw _ (om 68 rfl))) (mvT hZ (hw _ (om 41 rfl))) (by decide) (H1 _ _ _ _ _ _ _ 0 hZ (by decide) (by decide)) q6a q6b q6c (g := (mkF m 14 #[.val (.ref a), .val (.int (1 : Int32))] [(.int (1 : Int32)), (.ref a)])) rfl (by rw [hml]; rfl) (Steps.refl _) (argsL := [(.int (1 : Int32))]) (rest := []) (lenOf pd_6__I_C rfl) rfl (by show 2 * 0 + _ ≤ _; exact Nat.le_of_eq rfl) (hb hby d6_14) (fun _ _ => ⟨rfl, eh5, (by decide : 0 + 0 ≤ _), (by decide : 0 + 0 ≤ _)⟩)
    dsimp only [Pt.U, Pt.locs, Pt.cells, Pt.slots] at X6 l6 y6 z6 st6 hQ6
    subst l6 y6 z6
    obtain ⟨rfl, Nq6, eh6⟩ := hQ6
    have N6 := Fr.app N5 Nq6
    refine Goes.on (B := T6.setTop (mkF m 19 #[.val (.ref a), .val (.int (1 : Int32))] [(.int c1)])) (fun t k => st6.trans k) ?_
    obtain ⟨_, _, ⟨T7, L7, k7, n7⟩, -, X7, ⟨Lc7, hQ7, l7, y7, z7⟩, st7⟩ := Jvm.LawKit.callS X6 hx (y := (⟨"com/example/heirloom_archive/heirloomarchive/model/Text", "isWhiteSpace", "(C)Z"⟩ : MethodName)) hown (mvT hZ (hw _ (om 87 rfl))) (mvT hZ (hw _ (om 88 rfl))) (mvT hZ (hw _ (om 32 rfl))) (mvT hZ (hw _ (om 89 rfl))) (by decide) (backOf (W := 0) (rmws l Z a0 hw [] c1 h0 n0 Z0) hZ (hw _ (om 89 rfl)) (hw _ (om 32 rfl)) (by decide) (by decide)) (g := (mkF m 19 #[.val (.ref a), .val (.int (1 : Int32))] [(.int c1)])) rfl (by rw [hml]; rfl) (argsL := [(.int c1)]) (rest := []) (lenOf pd_6__C_Z rfl) rfl (by show 2 * 0 + _ ≤ _; exact Nat.le_of_eq rfl) (hb hby d6_19) (fun _ _ => ⟨rfl, eh6, (by decide : 0 + 0 ≤ _), (by decide : 0 + 0 ≤ _)⟩)
    dsimp only [Pt.U, Pt.locs, Pt.cells, Pt.slots] at X7 l7 y7 z7 st7 hQ7
    subst l7 y7 z7
    obtain ⟨rfl, Nq7, eh7⟩ := hQ7
    have N7 := Fr.app N6 Nq7
    refine Goes.on (B := T7.setTop (mkF m 22 #[.val (.ref a), .val (.int (1 : Int32))] [(.int (own_ws c1))])) (fun t k => st7 t k) ?_
    by_cases hc22_8 : (own_ws c1) = (0 : Int32)
    · refine Goes.on (B := T7.setTop (mkF m 26 #[.val (.ref a), .val (.int (1 : Int32))] [(.int (0 : Int32))])) (fun _ k => XS.ifNo X7.here hx rfl (hb hby d6_22) rfl ((if0 _ _).trans (teq hc22_8).2) (XS.iconst X7.here hx rfl (hb hby d6_25) k)) ?_
      obtain ⟨fs, hr, hrun, hended, hW, hsame⟩ := X7.leave (v := some (.int (0 : Int32))) (fun h => by rw [Bd.returns] at h; cases h)
      exact Goes.leaf (retN X7 hx (t := .boolean) Bd.returns (by simp) (hb hby d6_26) hr) hrun hended ⟨_, _, rfl, by show Qiw4 Z a c0 c1 c2 c3 h0 n0 _ T7.heap _; rw [eh7]; exact ⟨by rw [own_iw4, if_neg hc22_4, if_pos hc22_8], N7, rfl⟩, ⟨_, rfl⟩, hW, hsame.mono (by decide) (by decide)⟩
    · refine Goes.on (B := T7.setTop (mkF m 4 #[.val (.ref a), .val (.int (2 : Int32))] [(.ref a), (.int (2 : Int32))])) (fun _ k => XS.ifYes X7.here hx rfl (pc0 := 22) (pc' := 27) rfl (hb hby d6_22) rfl ((if0 _ _).trans (feq hc22_8).2) (by decide) (by decide) (XS.iinc X7.here hx rfl (hb hby d6_27) rfl (l' := #[.val (.ref a), .val (.int (2 : Int32))]) rfl (XS.goto X7.here hx rfl (pc0 := 30) (pc' := 2) rfl (hb hby d6_30) (by decide) (by decide) (XS.iloadN X7.here hx rfl (hb hby d6_2) rfl  (XS.aloadN X7.here hx rfl (hb hby d6_3) rfl rfl  k))))) ?_
      obtain ⟨cq9, kq9, q9a, q9b, q9c⟩ := isOf hZ eh7 EX
      obtain ⟨_, _, ⟨T9, L9, k9, n9⟩, -, X9, ⟨Lc9, hQ9, l9, y9, z9⟩, st9⟩ := X7.interfaceBack hx (xi := (⟨"java/lang/CharSequence", "length", "()I"⟩ : MethodName)) (y := (⟨"java/lang/String", "length", "()I"⟩ : MethodName)) hown (mvT hZ (hw _ (om 34 rfl))) (mvT hZ (hw _ (om 35 rfl))) (mvT hZ (hw _ (om 36 rfl))) (mvT hZ (hw _ (om 37 rfl))) (mvT hZ (hw _ (om 38 rfl))) (mvT hZ (hw _ (om 39 rfl))) (mvT hZ (hw _ (om 40 rfl))) (mvT hZ (hw _ (om 41 rfl))) (by decide) (HL _ _ _ _ _ _ _ 1 hZ (by decide) (by decide)) q9a q9b q9c (g := (mkF m 4 #[.val (.ref a), .val (.int (2 : Int32))] [(.ref a), (.int (2 : Int32))])) rfl (by rw [hml]; rfl) (Steps.refl _) (argsL := []) (rest := [(.int (2 : Int32))]) (lenOf pd_6___I rfl) rfl (by show 2 * 0 + _ ≤ _; exact Nat.le_of_eq rfl) (hb hby d6_4) (fun _ _ => ⟨rfl, eh7, (by decide : 0 + 0 ≤ _), (by decide : 0 + 0 ≤ _)⟩)
      dsimp only [Pt.U, Pt.locs, Pt.cells, Pt.slots] at X9 l9 y9 z9 st9 hQ9
      subst l9 y9 z9
      obtain ⟨rfl, Nq9, eh9⟩ := hQ9
      have N9 := Fr.app N7 Nq9
      refine Goes.on (B := T9.setTop (mkF m 9 #[.val (.ref a), .val (.int (2 : Int32))] [(.int (4 : Int32)), (.int (2 : Int32))])) (fun t k => st9.trans k) ?_
      refine Goes.on (B := T9.setTop (mkF m 14 #[.val (.ref a), .val (.int (2 : Int32))] [(.int (2 : Int32)), (.ref a)])) (fun _ k => XS.icmpNo X9.here hx rfl (hb hby d6_9) rfl (tlt (by decide)).2.1 (XS.aloadN X9.here hx rfl (hb hby d6_12) rfl rfl  (XS.iloadN X9.here hx rfl (hb hby d6_13) rfl  k))) ?_
      obtain ⟨cq10, kq10, q10a, q10b, q10c⟩ := isOf hZ eh9 EX
      obtain ⟨_, _, ⟨T10, L10, k10, n10⟩, -, X10, ⟨Lc10, hQ10, l10, y10, z10⟩, st10⟩ := X9.interfaceBack hx (xi := (⟨"java/lang/CharSequence", "charAt", "(I)C"⟩ : MethodName)) (y := (⟨"java/lang/String", "charAt", "(I)C"⟩ : MethodName)) hown (mvT hZ (hw _ (om 62 rfl))) (mvT hZ (hw _ (om 63 rfl))) (mvT hZ (hw _ (om 64 rfl))) (mvT hZ (hw _ (om 65 rfl))) (mvT hZ (hw _ (om 66 rfl))) (mvT hZ (hw _ (om 67 rfl))) (mvT hZ (hw _ (om 68 rfl))) (mvT hZ (hw _ (om 41 rfl))) (by decide) (H2 _ _ _ _ _ _ _ 0 hZ (by decide) (by decide)) q10a q10b q10c (g := (mkF m 14 #[.val (.ref a), .val (.int (2 : Int32))] [(.int (2 : Int32)), (.ref a)])) rfl (by rw [hml]; rfl) (Steps.refl _) (argsL := [(.int (2 : Int32))]) (rest := []) (lenOf pd_6__I_C rfl) rfl (by show 2 * 0 + _ ≤ _; exact Nat.le_of_eq rfl) (hb hby d6_14) (fun _ _ => ⟨rfl, eh9, (by decide : 0 + 0 ≤ _), (by decide : 0 + 0 ≤ _)⟩)
      dsimp only [Pt.U, Pt.locs, Pt.cells, Pt.slots] at X10 l10 y10 z10 st10 hQ10
      subst l10 y10 z10
      obtain ⟨rfl, Nq10, eh10⟩ := hQ10
      have N10 := Fr.app N9 Nq10
      refine Goes.on (B := T10.setTop (mkF m 19 #[.val (.ref a), .val (.int (2 : Int32))] [(.int c2)])) (fun t k => st10.trans k) ?_
      obtain ⟨_, _, ⟨T11, L11, k11, n11⟩, -, X11, ⟨Lc11, hQ11, l11, y11, z11⟩, st11⟩ := Jvm.LawKit.callS X10 hx (y := (⟨"com/example/heirloom_archive/heirloomarchive/model/Text", "isWhiteSpace", "(C)Z"⟩ : MethodName)) hown (mvT hZ (hw _ (om 87 rfl))) (mvT hZ (hw _ (om 88 rfl))) (mvT hZ (hw _ (om 32 rfl))) (mvT hZ (hw _ (om 89 rfl))) (by decide) (backOf (W := 0) (rmws l Z a0 hw [] c2 h0 n0 Z0) hZ (hw _ (om 89 rfl)) (hw _ (om 32 rfl)) (by decide) (by decide)) (g := (mkF m 19 #[.val (.ref a), .val (.int (2 : Int32))] [(.int c2)])) rfl (by rw [hml]; rfl) (argsL := [(.int c2)]) (rest := []) (lenOf pd_6__C_Z rfl) rfl (by show 2 * 0 + _ ≤ _; exact Nat.le_of_eq rfl) (hb hby d6_19) (fun _ _ => ⟨rfl, eh10, (by decide : 0 + 0 ≤ _), (by decide : 0 + 0 ≤ _)⟩)
      dsimp only [Pt.U, Pt.locs, Pt.cells, Pt.slots] at X11 l11 y11 z11 st11 hQ11
      subst l11 y11 z11
      obtain ⟨rfl, Nq11, eh11⟩ := hQ11
      have N11 := Fr.app N10 Nq11
      refine Goes.on (B := T11.setTop (mkF m 22 #[.val (.ref a), .val (.int (2 : Int32))] [(.int (own_ws c2))])) (fun t k => st11 t k) ?_
      by_cases hc22_12 : (own_ws c2) = (0 : Int32)
      · refine Goes.on (B := T11.setTop (mkF m 26 #[.val (.ref a), .val (.int (2 : Int32))] [(.int (0 : Int32))])) (fun _ k => XS.ifNo X11.here hx rfl (hb hby d6_22) rfl ((if0 _ _).trans (teq hc22_12).2) (XS.iconst X11.here hx rfl (hb hby d6_25) k)) ?_
        obtain ⟨fs, hr, hrun, hended, hW, hsame⟩ := X11.leave (v := some (.int (0 : Int32))) (fun h => by rw [Bd.returns] at h; cases h)
        exact Goes.leaf (retN X11 hx (t := .boolean) Bd.returns (by simp) (hb hby d6_26) hr) hrun hended ⟨_, _, rfl, by show Qiw4 Z a c0 c1 c2 c3 h0 n0 _ T11.heap _; rw [eh11]; exact ⟨by rw [own_iw4, if_neg hc22_4, if_neg hc22_8, if_pos hc22_12], N11, rfl⟩, ⟨_, rfl⟩, hW, hsame.mono (by decide) (by decide)⟩
      · refine Goes.on (B := T11.setTop (mkF m 4 #[.val (.ref a), .val (.int (3 : Int32))] [(.ref a), (.int (3 : Int32))])) (fun _ k => XS.ifYes X11.here hx rfl (pc0 := 22) (pc' := 27) rfl (hb hby d6_22) rfl ((if0 _ _).trans (feq hc22_12).2) (by decide) (by decide) (XS.iinc X11.here hx rfl (hb hby d6_27) rfl (l' := #[.val (.ref a), .val (.int (3 : Int32))]) rfl (XS.goto X11.here hx rfl (pc0 := 30) (pc' := 2) rfl (hb hby d6_30) (by decide) (by decide) (XS.iloadN X11.here hx rfl (hb hby d6_2) rfl  (XS.aloadN X11.here hx rfl (hb hby d6_3) rfl rfl  k))))) ?_
        obtain ⟨cq13, kq13, q13a, q13b, q13c⟩ := isOf hZ eh11 EX
        obtain ⟨_, _, ⟨T13, L13, k13, n13⟩, -, X13, ⟨Lc13, hQ13, l13, y13, z13⟩, st13⟩ := X11.interfaceBack hx (xi := (⟨"java/lang/CharSequence", "length", "()I"⟩ : MethodName)) (y := (⟨"java/lang/String", "length", "()I"⟩ : MethodName)) hown (mvT hZ (hw _ (om 34 rfl))) (mvT hZ (hw _ (om 35 rfl))) (mvT hZ (hw _ (om 36 rfl))) (mvT hZ (hw _ (om 37 rfl))) (mvT hZ (hw _ (om 38 rfl))) (mvT hZ (hw _ (om 39 rfl))) (mvT hZ (hw _ (om 40 rfl))) (mvT hZ (hw _ (om 41 rfl))) (by decide) (HL _ _ _ _ _ _ _ 1 hZ (by decide) (by decide)) q13a q13b q13c (g := (mkF m 4 #[.val (.ref a), .val (.int (3 : Int32))] [(.ref a), (.int (3 : Int32))])) rfl (by rw [hml]; rfl) (Steps.refl _) (argsL := []) (rest := [(.int (3 : Int32))]) (lenOf pd_6___I rfl) rfl (by show 2 * 0 + _ ≤ _; exact Nat.le_of_eq rfl) (hb hby d6_4) (fun _ _ => ⟨rfl, eh11, (by decide : 0 + 0 ≤ _), (by decide : 0 + 0 ≤ _)⟩)
        dsimp only [Pt.U, Pt.locs, Pt.cells, Pt.slots] at X13 l13 y13 z13 st13 hQ13
        subst l13 y13 z13
        obtain ⟨rfl, Nq13, eh13⟩ := hQ13
        have N13 := Fr.app N11 Nq13
        refine Goes.on (B := T13.setTop (mkF m 9 #[.val (.ref a), .val (.int (3 : Int32))] [(.int (4 : Int32)), (.int (3 : Int32))])) (fun t k => st13.trans k) ?_
        refine Goes.on (B := T13.setTop (mkF m 14 #[.val (.ref a), .val (.int (3 : Int32))] [(.int (3 : Int32)), (.ref a)])) (fun _ k => XS.icmpNo X13.here hx rfl (hb hby d6_9) rfl (tlt (by decide)).2.1 (XS.aloadN X13.here hx rfl (hb hby d6_12) rfl rfl  (XS.iloadN X13.here hx rfl (hb hby d6_13) rfl  k))) ?_
        obtain ⟨cq14, kq14, q14a, q14b, q14c⟩ := isOf hZ eh13 EX
        obtain ⟨_, _, ⟨T14, L14, k14, n14⟩, -, X14, ⟨Lc14, hQ14, l14, y14, z14⟩, st14⟩ := X13.interfaceBack hx (xi := (⟨"java/lang/CharSequence", "charAt", "(I)C"⟩ : MethodName)) (y := (⟨"java/lang/String", "charAt", "(I)C"⟩ : MethodName)) hown (mvT hZ (hw _ (om 62 rfl))) (mvT hZ (hw _ (om 63 rfl))) (mvT hZ (hw _ (om 64 rfl))) (mvT hZ (hw _ (om 65 rfl))) (mvT hZ (hw _ (om 66 rfl))) (mvT hZ (hw _ (om 67 rfl))) (mvT hZ (hw _ (om 68 rfl))) (mvT hZ (hw _ (om 41 rfl))) (by decide) (H3 _ _ _ _ _ _ _ 0 hZ (by decide) (by decide)) q14a q14b q14c (g := (mkF m 14 #[.val (.ref a), .val (.int (3 : Int32))] [(.int (3 : Int32)), (.ref a)])) rfl (by rw [hml]; rfl) (Steps.refl _) (argsL := [(.int (3 : Int32))]) (rest := []) (lenOf pd_6__I_C rfl) rfl (by show 2 * 0 + _ ≤ _; exact Nat.le_of_eq rfl) (hb hby d6_14) (fun _ _ => ⟨rfl, eh13, (by decide : 0 + 0 ≤ _), (by decide : 0 + 0 ≤ _)⟩)
        dsimp only [Pt.U, Pt.locs, Pt.cells, Pt.slots] at X14 l14 y14 z14 st14 hQ14
        subst l14 y14 z14
        obtain ⟨rfl, Nq14, eh14⟩ := hQ14
        have N14 := Fr.app N13 Nq14
        refine Goes.on (B := T14.setTop (mkF m 19 #[.val (.ref a), .val (.int (3 : Int32))] [(.int c3)])) (fun t k => st14.trans k) ?_
        obtain ⟨_, _, ⟨T15, L15, k15, n15⟩, -, X15, ⟨Lc15, hQ15, l15, y15, z15⟩, st15⟩ := Jvm.LawKit.callS X14 hx (y := (⟨"com/example/heirloom_archive/heirloomarchive/model/Text", "isWhiteSpace", "(C)Z"⟩ : MethodName)) hown (mvT hZ (hw _ (om 87 rfl))) (mvT hZ (hw _ (om 88 rfl))) (mvT hZ (hw _ (om 32 rfl))) (mvT hZ (hw _ (om 89 rfl))) (by decide) (backOf (W := 0) (rmws l Z a0 hw [] c3 h0 n0 Z0) hZ (hw _ (om 89 rfl)) (hw _ (om 32 rfl)) (by decide) (by decide)) (g := (mkF m 19 #[.val (.ref a), .val (.int (3 : Int32))] [(.int c3)])) rfl (by rw [hml]; rfl) (argsL := [(.int c3)]) (rest := []) (lenOf pd_6__C_Z rfl) rfl (by show 2 * 0 + _ ≤ _; exact Nat.le_of_eq rfl) (hb hby d6_19) (fun _ _ => ⟨rfl, eh14, (by decide : 0 + 0 ≤ _), (by decide : 0 + 0 ≤ _)⟩)
        dsimp only [Pt.U, Pt.locs, Pt.cells, Pt.slots] at X15 l15 y15 z15 st15 hQ15
        subst l15 y15 z15
        obtain ⟨rfl, Nq15, eh15⟩ := hQ15
        have N15 := Fr.app N14 Nq15
        refine Goes.on (B := T15.setTop (mkF m 22 #[.val (.ref a), .val (.int (3 : Int32))] [(.int (own_ws c3))])) (fun t k => st15 t k) ?_
        by_cases hc22_16 : (own_ws c3) = (0 : Int32)
        · refine Goes.on (B := T15.setTop (mkF m 26 #[.val (.ref a), .val (.int (3 : Int32))] [(.int (0 : Int32))])) (fun _ k => XS.ifNo X15.here hx rfl (hb hby d6_22) rfl ((if0 _ _).trans (teq hc22_16).2) (XS.iconst X15.here hx rfl (hb hby d6_25) k)) ?_
          obtain ⟨fs, hr, hrun, hended, hW, hsame⟩ := X15.leave (v := some (.int (0 : Int32))) (fun h => by rw [Bd.returns] at h; cases h)
          exact Goes.leaf (retN X15 hx (t := .boolean) Bd.returns (by simp) (hb hby d6_26) hr) hrun hended ⟨_, _, rfl, by show Qiw4 Z a c0 c1 c2 c3 h0 n0 _ T15.heap _; rw [eh15]; exact ⟨by rw [own_iw4, if_neg hc22_4, if_neg hc22_8, if_neg hc22_12, if_pos hc22_16], N15, rfl⟩, ⟨_, rfl⟩, hW, hsame.mono (by decide) (by decide)⟩
        · refine Goes.on (B := T15.setTop (mkF m 4 #[.val (.ref a), .val (.int (4 : Int32))] [(.ref a), (.int (4 : Int32))])) (fun _ k => XS.ifYes X15.here hx rfl (pc0 := 22) (pc' := 27) rfl (hb hby d6_22) rfl ((if0 _ _).trans (feq hc22_16).2) (by decide) (by decide) (XS.iinc X15.here hx rfl (hb hby d6_27) rfl (l' := #[.val (.ref a), .val (.int (4 : Int32))]) rfl (XS.goto X15.here hx rfl (pc0 := 30) (pc' := 2) rfl (hb hby d6_30) (by decide) (by decide) (XS.iloadN X15.here hx rfl (hb hby d6_2) rfl  (XS.aloadN X15.here hx rfl (hb hby d6_3) rfl rfl  k))))) ?_
          obtain ⟨cq17, kq17, q17a, q17b, q17c⟩ := isOf hZ eh15 EX
          obtain ⟨_, _, ⟨T17, L17, k17, n17⟩, -, X17, ⟨Lc17, hQ17, l17, y17, z17⟩, st17⟩ := X15.interfaceBack hx (xi := (⟨"java/lang/CharSequence", "length", "()I"⟩ : MethodName)) (y := (⟨"java/lang/String", "length", "()I"⟩ : MethodName)) hown (mvT hZ (hw _ (om 34 rfl))) (mvT hZ (hw _ (om 35 rfl))) (mvT hZ (hw _ (om 36 rfl))) (mvT hZ (hw _ (om 37 rfl))) (mvT hZ (hw _ (om 38 rfl))) (mvT hZ (hw _ (om 39 rfl))) (mvT hZ (hw _ (om 40 rfl))) (mvT hZ (hw _ (om 41 rfl))) (by decide) (HL _ _ _ _ _ _ _ 1 hZ (by decide) (by decide)) q17a q17b q17c (g := (mkF m 4 #[.val (.ref a), .val (.int (4 : Int32))] [(.ref a), (.int (4 : Int32))])) rfl (by rw [hml]; rfl) (Steps.refl _) (argsL := []) (rest := [(.int (4 : Int32))]) (lenOf pd_6___I rfl) rfl (by show 2 * 0 + _ ≤ _; exact Nat.le_of_eq rfl) (hb hby d6_4) (fun _ _ => ⟨rfl, eh15, (by decide : 0 + 0 ≤ _), (by decide : 0 + 0 ≤ _)⟩)
          dsimp only [Pt.U, Pt.locs, Pt.cells, Pt.slots] at X17 l17 y17 z17 st17 hQ17
          subst l17 y17 z17
          obtain ⟨rfl, Nq17, eh17⟩ := hQ17
          have N17 := Fr.app N15 Nq17
          refine Goes.on (B := T17.setTop (mkF m 9 #[.val (.ref a), .val (.int (4 : Int32))] [(.int (4 : Int32)), (.int (4 : Int32))])) (fun t k => st17.trans k) ?_
          refine Goes.on (B := T17.setTop (mkF m 34 #[.val (.ref a), .val (.int (4 : Int32))] [(.int (1 : Int32))])) (fun _ k => XS.icmpYes X17.here hx rfl (pc0 := 9) (pc' := 33) rfl (hb hby d6_9) rfl (flt (by decide)).2.1 (by decide) (by decide) (XS.iconst X17.here hx rfl (hb hby d6_33) k)) ?_
          obtain ⟨fs, hr, hrun, hended, hW, hsame⟩ := X17.leave (v := some (.int (1 : Int32))) (fun h => by rw [Bd.returns] at h; cases h)
          exact Goes.leaf (retN X17 hx (t := .boolean) Bd.returns (by simp) (hb hby d6_34) hr) hrun hended ⟨_, _, rfl, by show Qiw4 Z a c0 c1 c2 c3 h0 n0 _ T17.heap _; rw [eh17]; exact ⟨by rw [own_iw4, if_neg hc22_4, if_neg hc22_8, if_neg hc22_12, if_neg hc22_16], N17, rfl⟩, ⟨_, rfl⟩, hW, hsame.mono (by decide) (by decide)⟩
theorem d22_0 : decode jdk_52_method_4_code 0 = .ok (.getstatic 44, 3) := by decide +kernel
theorem d22_3 : decode jdk_52_method_4_code 3 = .ok (.ifCond .ne 25, 3) := by decide +kernel
theorem d22_28 : decode jdk_52_method_4_code 28 = .ok (.iload_n 1, 1) := by decide +kernel
theorem d22_29 : decode jdk_52_method_4_code 29 = .ok (.iconst 1, 1) := by decide +kernel
theorem d22_30 : decode jdk_52_method_4_code 30 = .ok (.ishl, 1) := by decide +kernel
theorem d22_31 : decode jdk_52_method_4_code 31 = .ok (.istore_n 1, 1) := by decide +kernel
theorem d22_32 : decode jdk_52_method_4_code 32 = .ok (.aload_n 0, 1) := by decide +kernel
theorem d22_33 : decode jdk_52_method_4_code 33 = .ok (.iload_n 1, 1) := by decide +kernel
theorem d22_34 : decode jdk_52_method_4_code 34 = .ok (.iinc 1 1, 3) := by decide +kernel
theorem d22_37 : decode jdk_52_method_4_code 37 = .ok (.iload_n 2, 1) := by decide +kernel
theorem d22_38 : decode jdk_52_method_4_code 38 = .ok (.getstatic 59, 3) := by decide +kernel
theorem d22_41 : decode jdk_52_method_4_code 41 = .ok (.ishr, 1) := by decide +kernel
theorem d22_42 : decode jdk_52_method_4_code 42 = .ok (.i2b, 1) := by decide +kernel
theorem d22_43 : decode jdk_52_method_4_code 43 = .ok (.bastore, 1) := by decide +kernel
theorem d22_44 : decode jdk_52_method_4_code 44 = .ok (.aload_n 0, 1) := by decide +kernel
theorem d22_45 : decode jdk_52_method_4_code 45 = .ok (.iload_n 1, 1) := by decide +kernel
theorem d22_46 : decode jdk_52_method_4_code 46 = .ok (.iload_n 2, 1) := by decide +kernel
theorem d22_47 : decode jdk_52_method_4_code 47 = .ok (.getstatic 63, 3) := by decide +kernel
theorem d22_50 : decode jdk_52_method_4_code 50 = .ok (.ishr, 1) := by decide +kernel
theorem d22_51 : decode jdk_52_method_4_code 51 = .ok (.i2b, 1) := by decide +kernel
theorem d22_52 : decode jdk_52_method_4_code 52 = .ok (.bastore, 1) := by decide +kernel
theorem d22_53 : decode jdk_52_method_4_code 53 = .ok (.return_, 1) := by decide +kernel
theorem pn_22 : plainName "java/lang/StringUTF16" = true := by first | (simp [plainName, overriddenIn]; done) | decide +kernel
theorem ef_pc (m : MethodId) (x0 : Addr) (x1 : Int32) (x2 : Int32) : entryFrame m #[(.ref x0), (.int x1), (.int x2)] 3 = mkF m 0 #[.val (.ref x0), .val (.int x1), .val (.int x2)] [] := by first | (simp [entryFrame, mkF, argsToLocals, Value.category]; done) | rfl
def Qpc (Z : State) (a : Addr) (p1 : Int32) (p2 : Int32) (kA : ClassId) (NN : Int32) (vs : List Value) (GA : Int32) (GB : Value) (h0 : Heap) (n0 : Nat) (v : Option Value) (h : Heap) (L : List Loc) : Prop := v = none ∧ Fr n0 L ∧ Keep h0 h [a] ∧ Arv Z h a kA .byte NN ((vs.set ((p1 <<< ((1 : Int32) &&& 31))).toNatClampNeg (.int (bA p2))).set (((p1 <<< ((1 : Int32) &&& 31)) + (1 : Int32))).toNatClampNeg (.int (bB p2))) (.int (0 : Int32))
set_option maxRecDepth 65536 in
set_option maxHeartbeats 40000000 in
theorem rmpc (l : Launch) (Z : State) (a0 : Array Value) (hw : ∀ d ∈ tables_1, d.before a0 Z = true) (ws : List Jvm.Cond) (a : Addr) (p1 : Int32) (p2 : Int32) (kA : ClassId) (NN : Int32) (vs : List Value) (GA : Int32) (GB : Value) (h0 : Heap) (n0 : Nat) (Z0 : n0 ≤ h0.size) (SS : own_St Z GA GB) (X00 : Old Z n0 h0) (AV : Arv Z h0 a kA .byte NN vs (.int (0 : Int32))) (ga : n0 ≤ a) (hi0 : ¬ (p1 <<< ((1 : Int32) &&& 31)) < 0 ∧ (p1 <<< ((1 : Int32) &&& 31)) < NN) (hi1 : ¬ ((p1 <<< ((1 : Int32) &&& 31)) + (1 : Int32)) < 0 ∧ ((p1 <<< ((1 : Int32) &&& 31)) + (1 : Int32)) < NN) (hl0 : ((p1 <<< ((1 : Int32) &&& 31))).toNatClampNeg < vs.length) (hl1 : (((p1 <<< ((1 : Int32) &&& 31)) + (1 : Int32))).toNatClampNeg < vs.length) :
    MetFree l (⟨"java/lang/StringUTF16", "putChar", "([BII)V"⟩ : MethodName) (head1 (Jvm.Cond.code (⟨"java/lang/StringUTF16", "putChar", "([BII)V"⟩ : MethodName) jdk_52_method_4_code 3 none :: ws) ({ frames := 0, cells := 0, slots := 0, locals := 0 } : Room)) (fun aa U => aa = #[(.ref a), (.int p1), (.int p2)] ∧ Z.Warmed39 U.vm ∧ U.heap = h0) (fun _ _ _ _ _ => True) (fun _ U oo U' => ∃ vv LL, oo = .returned vv ∧ Qpc Z a p1 p2 kA NN vs GA GB h0 n0 vv U'.heap LL ∧ FrameEnd U oo U' LL ({ frames := 0, cells := 0, slots := 0, locals := 0 } : Room).cells ({ frames := 0, cells := 0, slots := 0, locals := 0 } : Room).slots) := by
  refine MetFree.of_bodySF (plainFor_of_name pn_22) hisR ?_
  intro p e s m args below meth c s₁ Bd hml0 hP hK
  obtain ⟨rfl, hZ, hh⟩ := hP
  have hx := Bd.exec
  have hby := Bd.bytes
  have hml : c.maxLocals = 3 := hml0
  have hown : s.vm.findClass "java/lang/StringUTF16" = some m.cls := findClass_of_methodNamed Bd.named
  have hnm := (name_of_methodNamed Bd.named Bd.method).1
  have X0 : Stand p l e ({ frames := 0, cells := 0, slots := 0, locals := 0 } : Room) s m #[(.ref a), (.int p1), (.int p2)] below meth c s₁ [] 0 0 := Stand.of_body Bd
  have e0 : s₁.heap = h0 := by rw [← hh, Bd.state]; rfl
  have N0 := Fr.nil n0
  show Goes p e below _ (s₁.setTop (entryFrame m #[(.ref a), (.int p1), (.int p2)] 3))
  refine Goes.on (B := s₁.setTop (mkF m 0 #[.val (.ref a), .val (.int p1), .val (.int p2)] [])) (fun t k => castTop (ef_pc m a p1 p2) k) ?_
  obtain ⟨T1, X1, e1, st1⟩ := getS2 X0 hx hZ hown (host := "") (Or.inl (hw _ (om 103 rfl))) Via.refl e0 (SS.2.2.2.2.1.ext X00.2) (g := (mkF m 0 #[.val (.ref a), .val (.int p1), .val (.int p2)] [])) rfl (hb hby d22_0)
  refine Goes.on (B := T1.setTop (mkF m 3 #[.val (.ref a), .val (.int p1), .val (.int p2)] [(.int (1 : Int32))])) (fun t k => st1 t k) ?_
  refine Goes.on (B := T1.setTop (mkF m 37 #[.val (.ref a), .val (.int ((p1 <<< ((1 : Int32) &&& 31)) + (1 : Int32))), .val (.int p2)] [(.int (p1 <<< ((1 : Int32) &&& 31))), (.ref a)])) (fun _ k => XS.ifYes X1.here hx rfl (pc0 := 3) (pc' := 28) rfl (hb hby d22_3) rfl ((if0 _ _).trans (feq (by decide)).2) (by decide) (by decide) (XS.iloadN X1.here hx rfl (hb hby d22_28) rfl  (XS.iconst X1.here hx rfl (hb hby d22_29) (XS.ishl X1.here hx rfl (hb hby d22_30) rfl (XS.istoreN X1.here hx rfl (hb hby d22_31) rfl (l' := #[.val (.ref a), .val (.int (p1 <<< ((1 : Int32) &&& 31))), .val (.int p2)]) rfl (XS.aloadN X1.here hx rfl (hb hby d22_32) rfl rfl  (XS.iloadN X1.here hx rfl (hb hby d22_33) rfl  (XS.iinc X1.here hx rfl (hb hby d22_34) rfl (l' := #[.val (.ref a), .val (.int ((p1 <<< ((1 : Int32) &&& 31)) + (1 : Int32))), .val (.int p2)]) rfl k)))))))) ?_
  refine Goes.on (B := T1.setTop (mkF m 38 #[.val (.ref a), .val (.int ((p1 <<< ((1 : Int32) &&& 31)) + (1 : Int32))), .val (.int p2)] [(.int p2), (.int (p1 <<< ((1 : Int32) &&& 31))), (.ref a)])) (fun _ k => XS.iloadN X1.here hx rfl (hb hby d22_37) rfl  k) ?_
  obtain ⟨T2, X2, e2, st2⟩ := getS2 X1 hx hZ hown (host := "") (Or.inl (hw _ (om 104 rfl))) Via.refl e1 (SS.2.2.2.2.2.1.ext X00.2) (g := (mkF m 38 #[.val (.ref a), .val (.int ((p1 <<< ((1 : Int32) &&& 31)) + (1 : Int32))), .val (.int p2)] [(.int p2), (.int (p1 <<< ((1 : Int32) &&& 31))), (.ref a)])) rfl (hb hby d22_38)
  refine Goes.on (B := T2.setTop (mkF m 41 #[.val (.ref a), .val (.int ((p1 <<< ((1 : Int32) &&& 31)) + (1 : Int32))), .val (.int p2)] [(.int (0 : Int32)), (.int p2), (.int (p1 <<< ((1 : Int32) &&& 31))), (.ref a)])) (fun t k => st2 t k) ?_
  refine Goes.on (B := T2.setTop (mkF m 43 #[.val (.ref a), .val (.int ((p1 <<< ((1 : Int32) &&& 31)) + (1 : Int32))), .val (.int p2)] [(.int ((p2 >>> ((0 : Int32) &&& 31)).toInt8.toInt32)), (.int (p1 <<< ((1 : Int32) &&& 31))), (.ref a)])) (fun _ k => XS.ishr X2.here hx rfl (hb hby d22_41) rfl (XS.i2b X2.here hx rfl (hb hby d22_42) rfl k)) ?_
  obtain ⟨cl3, Ar3, q3, S3, Nn3, H3, G3⟩ := id AV
  have hin3 : ¬ ((p1 <<< ((1 : Int32) &&& 31)) < 0 ∨ cl3.slots.size ≤ ((p1 <<< ((1 : Int32) &&& 31))).toNatClampNeg) := inb_of S3 hi0
  obtain ⟨T4, h4, X4, e4, W4, st4⟩ := stB X2 hx hZ e2 Ar3 (j := (p1 <<< ((1 : Int32) &&& 31))) hin3 (g := (mkF m 43 #[.val (.ref a), .val (.int ((p1 <<< ((1 : Int32) &&& 31)) + (1 : Int32))), .val (.int p2)] [(.int ((p2 >>> ((0 : Int32) &&& 31)).toInt8.toInt32)), (.int (p1 <<< ((1 : Int32) &&& 31))), (.ref a)])) rfl rfl (hb hby d22_43)
  have V4 : Arv Z h4 a kA .byte NN (vs.set ((p1 <<< ((1 : Int32) &&& 31))).toNatClampNeg (.int (nar .byte ((p2 >>> ((0 : Int32) &&& 31)).toInt8.toInt32)))) (.int (0 : Int32)) := Arv.set Ar3 q3 S3 Nn3 H3 G3 (fits_nar_byte _) W4 ((p1 <<< ((1 : Int32) &&& 31))).toNatClampNeg rfl (by exact hl0)
  have f5 := X00.wr W4 ga
  have z6 : n0 ≤ h4.size := Nat.le_trans Z0 (Keep.of_wr W4).1
  have K7 : Keep h0 h4 [a] := (Keep.refl h0 [a]).wr W4 (Or.inl (om 0 rfl))
  have N4 := Fr.snoc X4 N0 ga
  refine Goes.on (B := T4.setTop (mkF m 44 #[.val (.ref a), .val (.int ((p1 <<< ((1 : Int32) &&& 31)) + (1 : Int32))), .val (.int p2)] [])) (fun t k => st4 t k) ?_
  refine Goes.on (B := T4.setTop (mkF m 47 #[.val (.ref a), .val (.int ((p1 <<< ((1 : Int32) &&& 31)) + (1 : Int32))), .val (.int p2)] [(.int p2), (.int ((p1 <<< ((1 : Int32) &&& 31)) + (1 : Int32))), (.ref a)])) (fun _ k => XS.aloadN X4.here hx rfl (hb hby d22_44) rfl rfl  (XS.iloadN X4.here hx rfl (hb hby d22_45) rfl  (XS.iloadN X4.here hx rfl (hb hby d22_46) rfl  k))) ?_
  obtain ⟨T8, X8, e8, st8⟩ := getS2 X4 hx hZ hown (host := "") (Or.inl (hw _ (om 105 rfl))) Via.refl e4 (SS.2.2.2.2.2.2.ext f5.2) (g := (mkF m 47 #[.val (.ref a), .val (.int ((p1 <<< ((1 : Int32) &&& 31)) + (1 : Int32))), .val (.int p2)] [(.int p2), (.int ((p1 <<< ((1 : Int32) &&& 31)) + (1 : Int32))), (.ref a)])) rfl (hb hby d22_47)
  refine Goes.on (B := T8.setTop (mkF m 50 #[.val (.ref a), .val (.int ((p1 <<< ((1 : Int32) &&& 31)) + (1 : Int32))), .val (.int p2)] [(.int (8 : Int32)), (.int p2), (.int ((p1 <<< ((1 : Int32) &&& 31)) + (1 : Int32))), (.ref a)])) (fun t k => st8 t k) ?_
  refine Goes.on (B := T8.setTop (mkF m 52 #[.val (.ref a), .val (.int ((p1 <<< ((1 : Int32) &&& 31)) + (1 : Int32))), .val (.int p2)] [(.int ((p2 >>> ((8 : Int32) &&& 31)).toInt8.toInt32)), (.int ((p1 <<< ((1 : Int32) &&& 31)) + (1 : Int32))), (.ref a)])) (fun _ k => XS.ishr X8.here hx rfl (hb hby d22_50) rfl (XS.i2b X8.here hx rfl (hb hby d22_51) rfl k)) ?_
  obtain ⟨cl9, Ar9, q9, S9, Nn9, H9, G9⟩ := id V4
  have hin9 : ¬ (((p1 <<< ((1 : Int32) &&& 31)) + (1 : Int32)) < 0 ∨ cl9.slots.size ≤ (((p1 <<< ((1 : Int32) &&& 31)) + (1 : Int32))).toNatClampNeg) := inb_of S9 hi1
  obtain ⟨T10, h10, X10, e10, W10, st10⟩ := stB X8 hx hZ e8 Ar9 (j := ((p1 <<< ((1 : Int32) &&& 31)) + (1 : Int32))) hin9 (g := (mkF m 52 #[.val (.ref a), .val (.int ((p1 <<< ((1 : Int32) &&& 31)) + (1 : Int32))), .val (.int p2)] [(.int ((p2 >>> ((8 : Int32) &&& 31)).toInt8.toInt32)), (.int ((p1 <<< ((1 : Int32) &&& 31)) + (1 : Int32))), (.ref a)])) rfl rfl (hb hby d22_52)
  have V10 : Arv Z h10 a kA .byte NN ((vs.set ((p1 <<< ((1 : Int32) &&& 31))).toNatClampNeg (.int (nar .byte ((p2 >>> ((0 : Int32) &&& 31)).toInt8.toInt32)))).set (((p1 <<< ((1 : Int32) &&& 31)) + (1 : Int32))).toNatClampNeg (.int (nar .byte ((p2 >>> ((8 : Int32) &&& 31)).toInt8.toInt32)))) (.int (0 : Int32)) := Arv.set Ar9 q9 S9 Nn9 H9 G9 (fits_nar_byte _) W10 (((p1 <<< ((1 : Int32) &&& 31)) + (1 : Int32))).toNatClampNeg rfl (by rw [List.length_set]; exact hl1)
  have f11 := f5.wr W10 ga
  have z12 : n0 ≤ h10.size := Nat.le_trans z6 (Keep.of_wr W10).1
  have K13 : Keep h0 h10 [a] := K7.wr W10 (Or.inl (om 0 rfl))
  have N10 := Fr.snoc X10 N4 ga
  refine Goes.on (B := T10.setTop (mkF m 53 #[.val (.ref a), .val (.int ((p1 <<< ((1 : Int32) &&& 31)) + (1 : Int32))), .val (.int p2)] [])) (fun t k => st10 t k) ?_
  obtain ⟨fs, hr, hrun, hended, hW, hsame⟩ := X10.leave (v := none) (fun _ => rfl)
  exact Goes.leaf (X10.returnOut hx Bd.returns (hb hby d22_53) hr) hrun hended ⟨_, _, rfl, by show Qpc Z a p1 p2 kA NN vs GA GB h0 n0 _ T10.heap _; rw [e10]; exact ⟨rfl, N10, K13, V10⟩, ⟨_, rfl⟩, hW, hsame.mono (by decide) (by decide)⟩
theorem d21_0 : decode jdk_52_method_3_code 0 = .ok (.iload_n 0, 1) := by decide +kernel
theorem d21_1 : decode jdk_52_method_3_code 1 = .ok (.ifCond .ge 11, 3) := by decide +kernel
theorem d21_12 : decode jdk_52_method_3_code 12 = .ok (.iload_n 0, 1) := by decide +kernel
theorem d21_13 : decode jdk_52_method_3_code 13 = .ok (.ldc 20, 2) := by decide +kernel
theorem d21_15 : decode jdk_52_method_3_code 15 = .ok (.if_icmp .lt 40, 3) := by decide +kernel
theorem d21_55 : decode jdk_52_method_3_code 55 = .ok (.iload_n 0, 1) := by decide +kernel
theorem d21_56 : decode jdk_52_method_3_code 56 = .ok (.iconst 1, 1) := by decide +kernel
theorem d21_57 : decode jdk_52_method_3_code 57 = .ok (.ishl, 1) := by decide +kernel
theorem d21_58 : decode jdk_52_method_3_code 58 = .ok (.ireturn, 1) := by decide +kernel
theorem pn_21 : plainName "java/lang/StringUTF16" = true := by first | (simp [plainName, overriddenIn]; done) | decide +kernel
theorem ef_nl1 (m : MethodId) (x0 : Int32) : entryFrame m #[(.int x0)] 1 = mkF m 0 #[.val (.int x0)] [] := by first | (simp [entryFrame, mkF, argsToLocals, Value.category]; done) | rfl
def Qnl1 (Z : State)   (h0 : Heap) (n0 : Nat) (v : Option Value) (h : Heap) (L : List Loc) : Prop := v = some (.int (2 : Int32)) ∧ Fr n0 L ∧ h = h0
set_option maxRecDepth 65536 in
set_option maxHeartbeats 40000000 in
theorem rmnl1 (l : Launch) (Z : State) (a0 : Array Value) (hw : ∀ d ∈ tables_1, d.before a0 Z = true) (ws : List Jvm.Cond)   (h0 : Heap) (n0 : Nat) (Z0 : n0 ≤ h0.size)  :
    MetFree l (⟨"java/lang/StringUTF16", "newBytesLength", "(I)I"⟩ : MethodName) (head1 (Jvm.Cond.code (⟨"java/lang/StringUTF16", "newBytesLength", "(I)I"⟩ : MethodName) jdk_52_method_3_code 1 (some .int) :: ws) ({ frames := 0, cells := 0, slots := 0, locals := 0 } : Room)) (fun aa U => aa = #[(.int (1 : Int32))] ∧ Z.Warmed39 U.vm ∧ U.heap = h0) (fun _ _ _ _ _ => True) (fun _ U oo U' => ∃ vv LL, oo = .returned vv ∧ Qnl1 Z  h0 n0 vv U'.heap LL ∧ FrameEnd U oo U' LL ({ frames := 0, cells := 0, slots := 0, locals := 0 } : Room).cells ({ frames := 0, cells := 0, slots := 0, locals := 0 } : Room).slots) := by
  refine MetFree.of_bodySF (plainFor_of_name pn_21) hisR ?_
  intro p e s m args below meth c s₁ Bd hml0 hP hK
  obtain ⟨rfl, hZ, hh⟩ := hP
  have hx := Bd.exec
  have hby := Bd.bytes
  have hml : c.maxLocals = 1 := hml0
  have hown : s.vm.findClass "java/lang/StringUTF16" = some m.cls := findClass_of_methodNamed Bd.named
  have hnm := (name_of_methodNamed Bd.named Bd.method).1
  have X0 : Stand p l e ({ frames := 0, cells := 0, slots := 0, locals := 0 } : Room) s m #[(.int (1 : Int32))] below meth c s₁ [] 0 0 := Stand.of_body Bd
  have e0 : s₁.heap = h0 := by rw [← hh, Bd.state]; rfl
  have N0 := Fr.nil n0
  show Goes p e below _ (s₁.setTop (entryFrame m #[(.int (1 : Int32))] 1))
  refine Goes.on (B := s₁.setTop (mkF m 0 #[.val (.int (1 : Int32))] [])) (fun t k => castTop (ef_nl1 m (1 : Int32)) k) ?_
  refine Goes.on (B := s₁.setTop (mkF m 58 #[.val (.int (1 : Int32))] [(.int (2 : Int32))])) (fun _ k => XS.iloadN X0.here hx rfl (hb hby d21_0) rfl  (XS.ifYes X0.here hx rfl (pc0 := 1) (pc' := 12) rfl (hb hby d21_1) rfl ((if0 _ _).trans (flt (by decide)).2.1) (by decide) (by decide) (XS.iloadN X0.here hx rfl (hb hby d21_12) rfl  (X0.ldcInt hx hown (mvT hZ (hw _ (om 99 rfl))) (g := (mkF m 13 #[.val (.int (1 : Int32))] [(.int (1 : Int32))])) rfl (hb hby d21_13) _ (XS.icmpYes X0.here hx rfl (pc0 := 15) (pc' := 55) rfl (hb hby d21_15) rfl (tlt (by decide)).1 (by decide) (by decide) (XS.iloadN X0.here hx rfl (hb hby d21_55) rfl  (XS.iconst X0.here hx rfl (hb hby d21_56) (XS.ishl X0.here hx rfl (hb hby d21_57) rfl k)))))))) ?_
  obtain ⟨fs, hr, hrun, hended, hW, hsame⟩ := X0.leave (v := some (.int (2 : Int32))) (fun h => by rw [Bd.returns] at h; cases h)
  exact Goes.leaf (own_retI X0 hx Bd.returns (hb hby d21_58) hr) hrun hended ⟨_, _, rfl, by show Qnl1 Z  h0 n0 _ s₁.heap _; rw [e0]; exact ⟨rfl, N0, rfl⟩, ⟨_, rfl⟩, hW, hsame.mono (by decide) (by decide)⟩
theorem d20_0 : decode jdk_52_method_2_code 0 = .ok (.iload_n 0, 1) := by decide +kernel
theorem d20_1 : decode jdk_52_method_2_code 1 = .ok (.invokestatic 11, 3) := by decide +kernel
theorem d20_4 : decode jdk_52_method_2_code 4 = .ok (.newarray .byte, 2) := by decide +kernel
theorem d20_6 : decode jdk_52_method_2_code 6 = .ok (.areturn, 1) := by decide +kernel
theorem pn_20 : plainName "java/lang/StringUTF16" = true := by first | (simp [plainName, overriddenIn]; done) | decide +kernel
theorem pd_20__I_I : parseMethodDescriptor "(I)I" = some ⟨[.int], some .int⟩ := by decide +kernel
theorem ef_nf1 (m : MethodId) (x0 : Int32) : entryFrame m #[(.int x0)] 1 = mkF m 0 #[.val (.int x0)] [] := by first | (simp [entryFrame, mkF, argsToLocals, Value.category]; done) | rfl
def Qnf1 (Z : State)   (h0 : Heap) (n0 : Nat) (v : Option Value) (h : Heap) (L : List Loc) : Prop := ∃ (b : Addr) (kb : ClassId), v = some (.ref b) ∧ Fr n0 L ∧ Keep h0 h [] ∧ n0 ≤ b ∧ h0.size ≤ b ∧ Arv Z h b kb .byte (2 : Int32) [(.int (0 : Int32)), (.int (0 : Int32))] (.int (0 : Int32))
set_option maxRecDepth 65536 in
set_option maxHeartbeats 40000000 in
theorem rmnf1 (l : Launch) (Z : State) (a0 : Array Value) (hw : ∀ d ∈ tables_1, d.before a0 Z = true) (ws : List Jvm.Cond)   (h0 : Heap) (n0 : Nat) (Z0 : n0 ≤ h0.size) (X00 : Old Z n0 h0) :
    MetFree l (⟨"java/lang/StringUTF16", "newBytesFor", "(I)[B"⟩ : MethodName) (head1 (Jvm.Cond.code (⟨"java/lang/StringUTF16", "newBytesFor", "(I)[B"⟩ : MethodName) jdk_52_method_2_code 1 (some (.array .byte)) :: ws) ({ frames := 1, cells := 1, slots := 2, locals := 12 } : Room)) (fun aa U => aa = #[(.int (1 : Int32))] ∧ Z.Warmed39 U.vm ∧ U.heap = h0) (fun _ _ _ _ _ => True) (fun _ U oo U' => ∃ vv LL, oo = .returned vv ∧ Qnf1 Z  h0 n0 vv U'.heap LL ∧ FrameEnd U oo U' LL ({ frames := 1, cells := 1, slots := 2, locals := 12 } : Room).cells ({ frames := 1, cells := 1, slots := 2, locals := 12 } : Room).slots) := by
  refine MetFree.of_bodySF (plainFor_of_name pn_20) hisR ?_
  intro p e s m args below meth c s₁ Bd hml0 hP hK
  obtain ⟨rfl, hZ, hh⟩ := hP
  have hx := Bd.exec
  have hby := Bd.bytes
  have hml : c.maxLocals = 1 := hml0
  have hown : s.vm.findClass "java/lang/StringUTF16" = some m.cls := findClass_of_methodNamed Bd.named
  have hnm := (name_of_methodNamed Bd.named Bd.method).1
  have X0 : Stand p l e ({ frames := 1, cells := 1, slots := 2, locals := 12 } : Room) s m #[(.int (1 : Int32))] below meth c s₁ [] 0 0 := Stand.of_body Bd
  have e0 : s₁.heap = h0 := by rw [← hh, Bd.state]; rfl
  have N0 := Fr.nil n0
  show Goes p e below _ (s₁.setTop (entryFrame m #[(.int (1 : Int32))] 1))
  refine Goes.on (B := s₁.setTop (mkF m 0 #[.val (.int (1 : Int32))] [])) (fun t k => castTop (ef_nf1 m (1 : Int32)) k) ?_
  refine Goes.on (B := s₁.setTop (mkF m 1 #[.val (.int (1 : Int32))] [(.int (1 : Int32))])) (fun _ k => XS.iloadN X0.here hx rfl (hb hby d20_0) rfl  k) ?_
  obtain ⟨_, _, ⟨T1, L1, k1, n1⟩, -, X1, ⟨Lc1, hQ1, l1, y1, z1⟩, st1⟩ := Jvm.LawKit.callS X0 hx (y := (⟨"java/lang/StringUTF16", "newBytesLength", "(I)I"⟩ : MethodName)) hown (mvT hZ (hw _ (om 96 rfl))) (mvT hZ (hw _ (om 97 rfl))) (mvT hZ (hw _ (om 51 rfl))) (mvT hZ (hw _ (om 98 rfl))) (by decide) (backOf (W := 0) (rmnl1 l Z a0 hw []  h0 n0 Z0) hZ (hw _ (om 98 rfl)) (hw _ (om 51 rfl)) (by decide) (by decide)) (g := (mkF m 1 #[.val (.int (1 : Int32))] [(.int (1 : Int32))])) rfl (by rw [hml]; rfl) (argsL := [(.int (1 : Int32))]) (rest := []) (lenOf pd_20__I_I rfl) rfl (by show 2 * 0 + _ ≤ _; exact Nat.le_of_eq rfl) (hb hby d20_1) (fun _ _ => ⟨rfl, e0, (by decide : 0 + 0 ≤ _), (by decide : 0 + 0 ≤ _)⟩)
  dsimp only [Pt.U, Pt.locs, Pt.cells, Pt.slots] at X1 l1 y1 z1 st1 hQ1
  subst l1 y1 z1
  obtain ⟨rfl, Nq1, eh1⟩ := hQ1
  have N1 := Fr.app N0 Nq1
  refine Goes.on (B := T1.setTop (mkF m 4 #[.val (.int (1 : Int32))] [(.int (2 : Int32))])) (fun t k => st1 t k) ?_
  obtain ⟨T2, h2, k2, X2, e2, E2, A2, st2⟩ := newP X1 hx hZ (hw _ (om 23 rfl)) eh1 (g := (mkF m 4 #[.val (.int (1 : Int32))] [(.int (2 : Int32))])) rfl (hb hby d20_4) rfl (by decide) (cap := 2) (by decide) (by decide) (by decide) (by decide)
  obtain ⟨b2, g2⟩ : ∃ z, z = h0.size := ⟨_, rfl⟩
  rw [← g2] at A2 st2
  have f3 := X00.ext E2
  have z4 : n0 ≤ h2.size := Nat.le_trans Z0 E2.1
  have K5 : Keep h0 h2 [] := (Keep.refl h0 []).ext E2
  have g_b2 : n0 ≤ b2 := Nat.le_trans Z0 (Nat.le_of_eq g2.symm)
  have sz_b2 : h0.size ≤ b2 := Nat.le_trans (Keep.refl h0 []).1 (Nat.le_of_eq g2.symm)
  have V2 : Arv Z h2 b2 k2 .byte (2 : Int32) [(.int (0 : Int32)), (.int (0 : Int32))] (.int (0 : Int32)) := (Arv.new A2 (by decide)).pad (pad_rep [] (.int (0 : Int32)) 2)
  refine Goes.on (B := T2.setTop (mkF m 6 #[.val (.int (1 : Int32))] [(.ref b2)])) (fun t k => st2 t k) ?_
  obtain ⟨fs, hr, hrun, hended, hW, hsame⟩ := X2.leave (v := some (.ref b2)) (fun h => by rw [Bd.returns] at h; cases h)
  exact Goes.leaf (own_retR X2 hx Bd.returns rfl rfl (hb hby d20_6) hr) hrun hended ⟨_, _, rfl, by show Qnf1 Z  h0 n0 _ T2.heap _; rw [e2]; exact ⟨b2, _, rfl, N1, K5, g_b2, sz_b2, V2⟩, ⟨_, rfl⟩, hW, hsame.mono (by decide) (by decide)⟩
theorem d19_0 : decode jdk_52_method_14_code 0 = .ok (.iload_n 2, 1) := by decide +kernel
theorem d19_1 : decode jdk_52_method_14_code 1 = .ok (.invokestatic 107, 3) := by decide +kernel
theorem d19_4 : decode jdk_52_method_14_code 4 = .ok (.astore_n 3, 1) := by decide +kernel
theorem d19_5 : decode jdk_52_method_14_code 5 = .ok (.iconst 0, 1) := by decide +kernel
theorem d19_6 : decode jdk_52_method_14_code 6 = .ok (.istore 4, 2) := by decide +kernel
theorem d19_8 : decode jdk_52_method_14_code 8 = .ok (.iload 4, 2) := by decide +kernel
theorem d19_10 : decode jdk_52_method_14_code 10 = .ok (.iload_n 2, 1) := by decide +kernel
theorem d19_11 : decode jdk_52_method_14_code 11 = .ok (.if_icmp .ge 21, 3) := by decide +kernel
theorem d19_14 : decode jdk_52_method_14_code 14 = .ok (.aload_n 3, 1) := by decide +kernel
theorem d19_15 : decode jdk_52_method_14_code 15 = .ok (.iload 4, 2) := by decide +kernel
theorem d19_17 : decode jdk_52_method_14_code 17 = .ok (.aload_n 0, 1) := by decide +kernel
theorem d19_18 : decode jdk_52_method_14_code 18 = .ok (.iload_n 1, 1) := by decide +kernel
theorem d19_19 : decode jdk_52_method_14_code 19 = .ok (.caload, 1) := by decide +kernel
theorem d19_20 : decode jdk_52_method_14_code 20 = .ok (.invokestatic 111, 3) := by decide +kernel
theorem d19_23 : decode jdk_52_method_14_code 23 = .ok (.iinc 1 1, 3) := by decide +kernel
theorem d19_26 : decode jdk_52_method_14_code 26 = .ok (.iinc 4 1, 3) := by decide +kernel
theorem d19_29 : decode jdk_52_method_14_code 29 = .ok (.goto (-21), 3) := by decide +kernel
theorem d19_32 : decode jdk_52_method_14_code 32 = .ok (.aload_n 3, 1) := by decide +kernel
theorem d19_33 : decode jdk_52_method_14_code 33 = .ok (.areturn, 1) := by decide +kernel
theorem pn_19 : plainName "java/lang/StringUTF16" = true := by first | (simp [plainName, overriddenIn]; done) | decide +kernel
theorem pd_19__I__B : parseMethodDescriptor "(I)[B" = some ⟨[.int], some (.array .byte)⟩ := by decide +kernel
theorem pd_19___BII_V : parseMethodDescriptor "([BII)V" = some ⟨[(.array .byte), .int, .int], none⟩ := by decide +kernel
theorem ef_tb1 (m : MethodId) (x0 : Addr) (x1 : Int32) (x2 : Int32) : entryFrame m #[(.ref x0), (.int x1), (.int x2)] 5 = mkF m 0 #[.val (.ref x0), .val (.int x1), .val (.int x2), .unset, .unset] [] := by first | (simp [entryFrame, mkF, argsToLocals, Value.category]; done) | rfl
def Qtb1 (Z : State) (a : Addr) (kC : ClassId) (c0 : Int32) (GA : Int32) (GB : Value) (h0 : Heap) (n0 : Nat) (v : Option Value) (h : Heap) (L : List Loc) : Prop := ∃ (b : Addr) (kb : ClassId), v = some (.ref b) ∧ Fr n0 L ∧ Keep h0 h [] ∧ n0 ≤ b ∧ h0.size ≤ b ∧ Arv Z h b kb .byte (2 : Int32) [(.int (bA c0)), (.int (bB c0))] (.int (0 : Int32))
set_option maxRecDepth 65536 in
set_option maxHeartbeats 40000000 in
theorem rmtb1 (l : Launch) (Z : State) (a0 : Array Value) (hw : ∀ d ∈ tables_1, d.before a0 Z = true) (ws : List Jvm.Cond) (a : Addr) (kC : ClassId) (c0 : Int32) (GA : Int32) (GB : Value) (h0 : Heap) (n0 : Nat) (Z0 : n0 ≤ h0.size) (SS : own_St Z GA GB) (X00 : Old Z n0 h0) (AC : Arv Z h0 a kC .char (1 : Int32) [(.int c0)] (.int (0 : Int32))) :
    MetFree l (⟨"java/lang/StringUTF16", "toBytes", "([CII)[B"⟩ : MethodName) (head1 (Jvm.Cond.code (⟨"java/lang/StringUTF16", "toBytes", "([CII)[B"⟩ : MethodName) jdk_52_method_14_code 5 (some (.array .byte)) :: ws) ({ frames := 2, cells := 1, slots := 2, locals := 26 } : Room)) (fun aa U => aa = #[(.ref a), (.int (0 : Int32)), (.int (1 : Int32))] ∧ Z.Warmed39 U.vm ∧ U.heap = h0) (fun _ _ _ _ _ => True) (fun _ U oo U' => ∃ vv LL, oo = .returned vv ∧ Qtb1 Z a kC c0 GA GB h0 n0 vv U'.heap LL ∧ FrameEnd U oo U' LL ({ frames := 2, cells := 1, slots := 2, locals := 26 } : Room).cells ({ frames := 2, cells := 1, slots := 2, locals := 26 } : Room).slots) := by
  refine MetFree.of_bodySF (plainFor_of_name pn_19) hisR ?_
  intro p e s m args below meth c s₁ Bd hml0 hP hK
  obtain ⟨rfl, hZ, hh⟩ := hP
  have hx := Bd.exec
  have hby := Bd.bytes
  have hml : c.maxLocals = 5 := hml0
  have hown : s.vm.findClass "java/lang/StringUTF16" = some m.cls := findClass_of_methodNamed Bd.named
  have hnm := (name_of_methodNamed Bd.named Bd.method).1
  have X0 : Stand p l e ({ frames := 2, cells := 1, slots := 2, locals := 26 } : Room) s m #[(.ref a), (.int (0 : Int32)), (.int (1 : Int32))] below meth c s₁ [] 0 0 := Stand.of_body Bd
  have e0 : s₁.heap = h0 := by rw [← hh, Bd.state]; rfl
  have N0 := Fr.nil n0
  show Goes p e below _ (s₁.setTop (entryFrame m #[(.ref a), (.int (0 : Int32)), (.int (1 : Int32))] 5))
  refine Goes.on (B := s₁.setTop (mkF m 0 #[.val (.ref a), .val (.int (0 : Int32)), .val (.int (1 : Int32)), .unset, .unset] [])) (fun t k => castTop (ef_tb1 m a (0 : Int32) (1 : Int32)) k) ?_
  refine Goes.on (B := s₁.setTop (mkF m 1 #[.val (.ref a), .val (.int (0 : Int32)), .val (.int (1 : Int32)), .unset, .unset] [(.int (1 : Int32))])) (fun _ k => XS.iloadN X0.here hx rfl (hb hby d19_0) rfl  k) ?_
  obtain ⟨_, _, ⟨T1, L1, k1, n1⟩, -, X1, ⟨Lc1, hQ1, l1, y1, z1⟩, st1⟩ := Jvm.LawKit.callS X0 hx (y := (⟨"java/lang/StringUTF16", "newBytesFor", "(I)[B"⟩ : MethodName)) hown (mvT hZ (hw _ (om 93 rfl))) (mvT hZ (hw _ (om 94 rfl))) (mvT hZ (hw _ (om 51 rfl))) (mvT hZ (hw _ (om 95 rfl))) (by decide) (backOf (W := 0) (rmnf1 l Z a0 hw []  h0 n0 Z0 X00) hZ (hw _ (om 95 rfl)) (hw _ (om 51 rfl)) (by decide) (by decide)) (g := (mkF m 1 #[.val (.ref a), .val (.int (0 : Int32)), .val (.int (1 : Int32)), .unset, .unset] [(.int (1 : Int32))])) rfl (by rw [hml]; rfl) (argsL := [(.int (1 : Int32))]) (rest := []) (lenOf pd_19__I__B rfl) rfl (by show 2 * 0 + _ ≤ _; exact Nat.le_of_eq rfl) (hb hby d19_1) (fun _ _ => ⟨rfl, e0, (by decide : 0 + 1 ≤ _), (by decide : 0 + 2 ≤ _)⟩)
  dsimp only [Pt.U, Pt.locs, Pt.cells, Pt.slots] at X1 l1 y1 z1 st1 hQ1
  subst l1 y1 z1
  obtain ⟨b1, kb1, rfl, Nq1, Kq1, g_b1, sq_b1, Vq1⟩ := hQ1
  obtain ⟨h1, eh1⟩ : ∃ h, T1.heap = h := ⟨_, rfl⟩
  rw [eh1] at Kq1 Vq1
  have ne_a_b1 : a ≠ b1 := Nat.ne_of_lt (Nat.lt_of_lt_of_le AC.lt sq_b1)
  have f2 := X00.keep Kq1 (all0)
  have f3 := AC.keep Kq1 nin0
  have z4 : n0 ≤ h1.size := Nat.le_trans Z0 Kq1.1
  have K5 : Keep h0 h1 [] := (Keep.refl h0 []).trans Kq1 all0
  have sz_b1 : h0.size ≤ b1 := Nat.le_trans (Keep.refl h0 []).1 sq_b1
  have N1 := Fr.app N0 Nq1
  refine Goes.on (B := T1.setTop (mkF m 4 #[.val (.ref a), .val (.int (0 : Int32)), .val (.int (1 : Int32)), .unset, .unset] [(.ref b1)])) (fun t k => st1 t k) ?_
  refine Goes.on (B := T1.setTop (mkF m 17 #[.val (.ref a), .val (.int (0 : Int32)), .val (.int (1 : Int32)), .val (.ref b1), .val (.int (0 : Int32))] [(.int (0 : Int32)), (.ref b1)])) (fun _ k => XS.astoreN X1.here hx rfl (hb hby d19_4) rfl rfl (l' := #[.val (.ref a), .val (.int (0 : Int32)), .val (.int (1 : Int32)), .val (.ref b1), .unset]) rfl (XS.iconst X1.here hx rfl (hb hby d19_5) (XS.istore X1.here hx rfl (hb hby d19_6) rfl (l' := #[.val (.ref a), .val (.int (0 : Int32)), .val (.int (1 : Int32)), .val (.ref b1), .val (.int (0 : Int32))]) rfl (XS.iload X1.here hx rfl (hb hby d19_8) rfl  (XS.iloadN X1.here hx rfl (hb hby d19_10) rfl  (XS.icmpNo X1.here hx rfl (hb hby d19_11) rfl (tlt (by decide)).2.1 (XS.aloadN X1.here hx rfl (hb hby d19_14) rfl rfl  (XS.iload X1.here hx rfl (hb hby d19_15) rfl  k)))))))) ?_
  refine Goes.on (B := T1.setTop (mkF m 19 #[.val (.ref a), .val (.int (0 : Int32)), .val (.int (1 : Int32)), .val (.ref b1), .val (.int (0 : Int32))] [(.int (0 : Int32)), (.ref a), (.int (0 : Int32)), (.ref b1)])) (fun _ k => XS.aloadN X1.here hx rfl (hb hby d19_17) rfl rfl  (XS.iloadN X1.here hx rfl (hb hby d19_18) rfl  k)) ?_
  obtain ⟨cl6, Ar6, q6, S6, Nn6, H6, G6⟩ := id f3
  have hin6 : ¬ ((0 : Int32) < 0 ∨ cl6.slots.size ≤ ((0 : Int32)).toNatClampNeg) := inb_of S6 ⟨by decide, by decide⟩
  refine Goes.on (B := T1.setTop (mkF m 20 #[.val (.ref a), .val (.int (0 : Int32)), .val (.int (1 : Int32)), .val (.ref b1), .val (.int (0 : Int32))] [(.int c0), (.int (0 : Int32)), (.ref b1)])) (fun _ k => X1.caload hx (j := (0 : Int32)) (v := (.int c0)) (by rw [eh1]; exact Ar6.1) (State.isArrayOf_alike hZ.alike Ar6.2.1) Ar6.2.2 hin6 (H6.at hin6 rfl) (g := (mkF m 19 #[.val (.ref a), .val (.int (0 : Int32)), .val (.int (1 : Int32)), .val (.ref b1), .val (.int (0 : Int32))] [(.int (0 : Int32)), (.ref a), (.int (0 : Int32)), (.ref b1)])) rfl rfl (hb hby d19_19) _ k) ?_
  obtain ⟨_, _, ⟨T7, L7, k7, n7⟩, -, X7, ⟨Lc7, hQ7, l7, y7, z7⟩, st7⟩ := Jvm.LawKit.callS X1 hx (y := (⟨"java/lang/StringUTF16", "putChar", "([BII)V"⟩ : MethodName)) hown (mvT hZ (hw _ (om 100 rfl))) (mvT hZ (hw _ (om 101 rfl))) (mvT hZ (hw _ (om 51 rfl))) (mvT hZ (hw _ (om 102 rfl))) (by decide) (backOf (W := 0) (rmpc l Z a0 hw [] b1 (0 : Int32) c0 kb1 (2 : Int32) [(.int (0 : Int32)), (.int (0 : Int32))] GA GB h1 n0 z4 SS f2 Vq1 g_b1 ⟨by decide, by decide⟩ ⟨by decide, by decide⟩ (by first | decide | (simp only [List.length_cons, List.length_nil]; decide)) (by first | decide | (simp only [List.length_cons, List.length_nil]; decide))) hZ (hw _ (om 102 rfl)) (hw _ (om 51 rfl)) (by decide) (by decide)) (g := (mkF m 20 #[.val (.ref a), .val (.int (0 : Int32)), .val (.int (1 : Int32)), .val (.ref b1), .val (.int (0 : Int32))] [(.int c0), (.int (0 : Int32)), (.ref b1)])) rfl (by rw [hml]; rfl) (argsL := [(.ref b1), (.int (0 : Int32)), (.int c0)]) (rest := []) (lenOf pd_19___BII_V rfl) rfl (by show 2 * 0 + _ ≤ _; exact Nat.le_of_eq rfl) (hb hby d19_20) (fun _ _ => ⟨rfl, eh1, (by decide : 1 + 0 ≤ _), (by decide : 2 + 0 ≤ _)⟩)
  dsimp only [Pt.U, Pt.locs, Pt.cells, Pt.slots] at X7 l7 y7 z7 st7 hQ7
  subst l7 y7 z7
  obtain ⟨rfl, Nq7, Kq7, Vp7⟩ := hQ7
  obtain ⟨h7, eh7⟩ : ∃ h, T7.heap = h := ⟨_, rfl⟩
  rw [eh7] at Kq7 Vp7
  have f8 := f2.keep Kq7 (allS g_b1 all0)
  have f9 := f3.keep Kq7 (ninS ne_a_b1 nin0)
  have z10 : n0 ≤ h7.size := Nat.le_trans z4 Kq7.1
  have K11 : Keep h0 h7 [] := K5.trans Kq7 (allS (Or.inr sz_b1) all0)
  have Vq7 : Arv Z h7 b1 kb1 .byte (2 : Int32) [(.int (bA c0)), (.int (bB c0))] (.int (0 : Int32)) := Vp7
  have N7 := Fr.app N1 Nq7
  refine Goes.on (B := T7.setTop (mkF m 23 #[.val (.ref a), .val (.int (0 : Int32)), .val (.int (1 : Int32)), .val (.ref b1), .val (.int (0 : Int32))] [])) (fun t k => st7 t k) ?_
  refine Goes.on (B := T7.setTop (mkF m 33 #[.val (.ref a), .val (.int (1 : Int32)), .val (.int (1 : Int32)), .val (.ref b1), .val (.int (1 : Int32))] [(.ref b1)])) (fun _ k => XS.iinc X7.here hx rfl (hb hby d19_23) rfl (l' := #[.val (.ref a), .val (.int (1 : Int32)), .val (.int (1 : Int32)), .val (.ref b1), .val (.int (0 : Int32))]) rfl (XS.iinc X7.here hx rfl (hb hby d19_26) rfl (l' := #[.val (.ref a), .val (.int (1 : Int32)), .val (.int (1 : Int32)), .val (.ref b1), .val (.int (1 : Int32))]) rfl (XS.goto X7.here hx rfl (pc0 := 29) (pc' := 8) rfl (hb hby d19_29) (by decide) (by decide) (XS.iload X7.here hx rfl (hb hby d19_8) rfl  (XS.iloadN X7.here hx rfl (hb hby d19_10) rfl  (XS.icmpYes X7.here hx rfl (pc0 := 11) (pc' := 32) rfl (hb hby d19_11) rfl (flt (by decide)).2.1 (by decide) (by decide) (XS.aloadN X7.here hx rfl (hb hby d19_32) rfl rfl  k))))))) ?_
  obtain ⟨fs, hr, hrun, hended, hW, hsame⟩ := X7.leave (v := some (.ref b1)) (fun h => by rw [Bd.returns] at h; cases h)
  exact Goes.leaf (own_retR X7 hx Bd.returns rfl rfl (hb hby d19_33) hr) hrun hended ⟨_, _, rfl, by show Qtb1 Z a kC c0 GA GB h0 n0 _ T7.heap _; rw [eh7]; exact ⟨b1, _, rfl, N7, K11, g_b1, sz_b1, Vq7⟩, ⟨_, rfl⟩, hW, hsame.mono (by decide) (by decide)⟩
theorem d10_0 : decode jdk_52_method_21_code 0 = .ok (.iconst 0, 1) := by decide +kernel
theorem d10_1 : decode jdk_52_method_21_code 1 = .ok (.istore 5, 2) := by decide +kernel
theorem d10_3 : decode jdk_52_method_21_code 3 = .ok (.iload 5, 2) := by decide +kernel
theorem d10_5 : decode jdk_52_method_21_code 5 = .ok (.iload 4, 2) := by decide +kernel
theorem d10_7 : decode jdk_52_method_21_code 7 = .ok (.if_icmp .ge 37, 3) := by decide +kernel
theorem d10_10 : decode jdk_52_method_21_code 10 = .ok (.aload_n 0, 1) := by decide +kernel
theorem d10_11 : decode jdk_52_method_21_code 11 = .ok (.iload_n 1, 1) := by decide +kernel
theorem d10_12 : decode jdk_52_method_21_code 12 = .ok (.caload, 1) := by decide +kernel
theorem d10_13 : decode jdk_52_method_21_code 13 = .ok (.istore 6, 2) := by decide +kernel
theorem d10_15 : decode jdk_52_method_21_code 15 = .ok (.iload 6, 2) := by decide +kernel
theorem d10_17 : decode jdk_52_method_21_code 17 = .ok (.sipush 255, 3) := by decide +kernel
theorem d10_20 : decode jdk_52_method_21_code 20 = .ok (.if_icmp .le 6, 3) := by decide +kernel
theorem d10_23 : decode jdk_52_method_21_code 23 = .ok (.iload 5, 2) := by decide +kernel
theorem d10_25 : decode jdk_52_method_21_code 25 = .ok (.ireturn, 1) := by decide +kernel
theorem pn_10 : plainName "java/lang/StringUTF16" = true := by first | (simp [plainName, overriddenIn]; done) | decide +kernel
theorem ef_cI1 (m : MethodId) (x0 : Addr) (x1 : Int32) (x2 : Addr) (x3 : Int32) (x4 : Int32) : entryFrame m #[(.ref x0), (.int x1), (.ref x2), (.int x3), (.int x4)] 7 = mkF m 0 #[.val (.ref x0), .val (.int x1), .val (.ref x2), .val (.int x3), .val (.int x4), .unset, .unset] [] := by first | (simp [entryFrame, mkF, argsToLocals, Value.category]; done) | rfl
def QcI1 (Z : State) (a : Addr) (b : Addr) (kC kB : ClassId) (c0 : Int32) (h0 : Heap) (n0 : Nat) (v : Option Value) (h : Heap) (L : List Loc) : Prop := ∃ (ii y : Int32), v = some (.int ii) ∧ Fr n0 L ∧ Keep h0 h [b] ∧ ¬ ii = (1 : Int32) ∧ (255 : Int32) < y ∧ own_rg y ∧ (¬ (ii <<< ((1 : Int32) &&& 31)) < 0 ∧ (ii <<< ((1 : Int32) &&& 31)) < (2 : Int32)) ∧ (¬ ((ii <<< ((1 : Int32) &&& 31)) + (1 : Int32)) < 0 ∧ ((ii <<< ((1 : Int32) &&& 31)) + (1 : Int32)) < (2 : Int32)) ∧ ([(.int (bA c0)), (.int (bB c0))] : List Value).getD ((ii <<< ((1 : Int32) &&& 31))).toNatClampNeg (.int (0 : Int32)) = (.int (bA y)) ∧ ([(.int (bA c0)), (.int (bB c0))] : List Value).getD (((ii <<< ((1 : Int32) &&& 31)) + (1 : Int32))).toNatClampNeg (.int (0 : Int32)) = (.int (bB y))
set_option maxRecDepth 65536 in
set_option maxHeartbeats 40000000 in
theorem rmcI1 (l : Launch) (Z : State) (a0 : Array Value) (hw : ∀ d ∈ tables_1, d.before a0 Z = true) (ws : List Jvm.Cond) (a : Addr) (b : Addr) (kC kB : ClassId) (c0 : Int32) (h0 : Heap) (n0 : Nat) (Z0 : n0 ≤ h0.size) (X00 : Old Z n0 h0) (AC : Arv Z h0 a kC .char (1 : Int32) [(.int c0)] (.int (0 : Int32))) (AB : Arv Z h0 b kB .byte (1 : Int32) [(.int (0 : Int32))] (.int (0 : Int32))) (gb : n0 ≤ b) (nab : a ≠ b) (r0 : own_rg c0) (hwd : ¬ (¬ (255 : Int32) < c0)) :
    MetFree l (⟨"java/lang/StringUTF16", "compress", "([CI[BII)I"⟩ : MethodName) (head1 (Jvm.Cond.code (⟨"java/lang/StringUTF16", "compress", "([CI[BII)I"⟩ : MethodName) jdk_52_method_21_code 7 (some .int) :: ws) ({ frames := 0, cells := 0, slots := 0, locals := 0 } : Room)) (fun aa U => aa = #[(.ref a), (.int (0 : Int32)), (.ref b), (.int (0 : Int32)), (.int (1 : Int32))] ∧ Z.Warmed39 U.vm ∧ U.heap = h0) (fun _ _ _ _ _ => True) (fun _ U oo U' => ∃ vv LL, oo = .returned vv ∧ QcI1 Z a b kC kB c0 h0 n0 vv U'.heap LL ∧ FrameEnd U oo U' LL ({ frames := 0, cells := 0, slots := 0, locals := 0 } : Room).cells ({ frames := 0, cells := 0, slots := 0, locals := 0 } : Room).slots) := by
  refine MetFree.of_bodySF (plainFor_of_name pn_10) hisR ?_
  intro p e s m args below meth c s₁ Bd hml0 hP hK
  obtain ⟨rfl, hZ, hh⟩ := hP
  have hx := Bd.exec
  have hby := Bd.bytes
  have hml : c.maxLocals = 7 := hml0
  have hown : s.vm.findClass "java/lang/StringUTF16" = some m.cls := findClass_of_methodNamed Bd.named
  have hnm := (name_of_methodNamed Bd.named Bd.method).1
  have X0 : Stand p l e ({ frames := 0, cells := 0, slots := 0, locals := 0 } : Room) s m #[(.ref a), (.int (0 : Int32)), (.ref b), (.int (0 : Int32)), (.int (1 : Int32))] below meth c s₁ [] 0 0 := Stand.of_body Bd
  have e0 : s₁.heap = h0 := by rw [← hh, Bd.state]; rfl
  have N0 := Fr.nil n0
  show Goes p e below _ (s₁.setTop (entryFrame m #[(.ref a), (.int (0 : Int32)), (.ref b), (.int (0 : Int32)), (.int (1 : Int32))] 7))
  refine Goes.on (B := s₁.setTop (mkF m 0 #[.val (.ref a), .val (.int (0 : Int32)), .val (.ref b), .val (.int (0 : Int32)), .val (.int (1 : Int32)), .unset, .unset] [])) (fun t k => castTop (ef_cI1 m a (0 : Int32) b (0 : Int32) (1 : Int32)) k) ?_
  refine Goes.on (B := s₁.setTop (mkF m 12 #[.val (.ref a), .val (.int (0 : Int32)), .val (.ref b), .val (.int (0 : Int32)), .val (.int (1 : Int32)), .val (.int (0 : Int32)), .unset] [(.int (0 : Int32)), (.ref a)])) (fun _ k => XS.iconst X0.here hx rfl (hb hby d10_0) (XS.istore X0.here hx rfl (hb hby d10_1) rfl (l' := #[.val (.ref a), .val (.int (0 : Int32)), .val (.ref b), .val (.int (0 : Int32)), .val (.int (1 : Int32)), .val (.int (0 : Int32)), .unset]) rfl (XS.iload X0.here hx rfl (hb hby d10_3) rfl  (XS.iload X0.here hx rfl (hb hby d10_5) rfl  (XS.icmpNo X0.here hx rfl (hb hby d10_7) rfl (tlt (by decide)).2.1 (XS.aloadN X0.here hx rfl (hb hby d10_10) rfl rfl  (XS.iloadN X0.here hx rfl (hb hby d10_11) rfl  k))))))) ?_
  obtain ⟨cl1, Ar1, q1, S1, Nn1, H1, G1⟩ := id AC
  have hin1 : ¬ ((0 : Int32) < 0 ∨ cl1.slots.size ≤ ((0 : Int32)).toNatClampNeg) := inb_of S1 ⟨by decide, by decide⟩
  refine Goes.on (B := s₁.setTop (mkF m 20 #[.val (.ref a), .val (.int (0 : Int32)), .val (.ref b), .val (.int (0 : Int32)), .val (.int (1 : Int32)), .val (.int (0 : Int32)), .val (.int c0)] [(.int (255 : Int32)), (.int c0)])) (fun _ k => X0.caload hx (j := (0 : Int32)) (v := (.int c0)) (by rw [e0]; exact Ar1.1) (State.isArrayOf_alike hZ.alike Ar1.2.1) Ar1.2.2 hin1 (H1.at hin1 rfl) (g := (mkF m 12 #[.val (.ref a), .val (.int (0 : Int32)), .val (.ref b), .val (.int (0 : Int32)), .val (.int (1 : Int32)), .val (.int (0 : Int32)), .unset] [(.int (0 : Int32)), (.ref a)])) rfl rfl (hb hby d10_12) _ (XS.istore X0.here hx rfl (hb hby d10_13) rfl (l' := #[.val (.ref a), .val (.int (0 : Int32)), .val (.ref b), .val (.int (0 : Int32)), .val (.int (1 : Int32)), .val (.int (0 : Int32)), .val (.int c0)]) rfl (XS.iload X0.here hx rfl (hb hby d10_15) rfl  (XS.sipush X0.here hx rfl (hb hby d10_17) k)))) ?_
  by_cases g0 : (255 : Int32) < c0
  · refine Goes.on (B := s₁.setTop (mkF m 25 #[.val (.ref a), .val (.int (0 : Int32)), .val (.ref b), .val (.int (0 : Int32)), .val (.int (1 : Int32)), .val (.int (0 : Int32)), .val (.int c0)] [(.int (0 : Int32))])) (fun _ k => XS.icmpNo X0.here hx rfl (hb hby d10_20) rfl (tlt g0).2.2.2 (XS.iload X0.here hx rfl (hb hby d10_23) rfl  k)) ?_
    obtain ⟨fs, hr, hrun, hended, hW, hsame⟩ := X0.leave (v := some (.int (0 : Int32))) (fun h => by rw [Bd.returns] at h; cases h)
    exact Goes.leaf (own_retI X0 hx Bd.returns (hb hby d10_25) hr) hrun hended ⟨_, _, rfl, by show QcI1 Z a b kC kB c0 h0 n0 _ s₁.heap _; rw [e0]; exact ⟨(0 : Int32), c0, rfl, N0, (Keep.refl h0 [b]), by decide, g0, r0, ⟨by decide, by decide⟩, ⟨by decide, by decide⟩, rfl, rfl⟩, ⟨_, rfl⟩, hW, hsame.mono (by decide) (by decide)⟩
  · exact absurd g0 hwd
theorem d9_0 : decode jdk_52_method_16_code 0 = .ok (.iload_n 2, 1) := by decide +kernel
theorem d9_1 : decode jdk_52_method_16_code 1 = .ok (.newarray .byte, 2) := by decide +kernel
theorem d9_3 : decode jdk_52_method_16_code 3 = .ok (.astore_n 3, 1) := by decide +kernel
theorem d9_4 : decode jdk_52_method_16_code 4 = .ok (.aload_n 0, 1) := by decide +kernel
theorem d9_5 : decode jdk_52_method_16_code 5 = .ok (.iload_n 1, 1) := by decide +kernel
theorem d9_6 : decode jdk_52_method_16_code 6 = .ok (.aload_n 3, 1) := by decide +kernel
theorem d9_7 : decode jdk_52_method_16_code 7 = .ok (.iconst 0, 1) := by decide +kernel
theorem d9_8 : decode jdk_52_method_16_code 8 = .ok (.iload_n 2, 1) := by decide +kernel
theorem d9_9 : decode jdk_52_method_16_code 9 = .ok (.invokestatic 115, 3) := by decide +kernel
theorem d9_12 : decode jdk_52_method_16_code 12 = .ok (.istore 4, 2) := by decide +kernel
theorem d9_14 : decode jdk_52_method_16_code 14 = .ok (.iload 4, 2) := by decide +kernel
theorem d9_16 : decode jdk_52_method_16_code 16 = .ok (.iload_n 2, 1) := by decide +kernel
theorem d9_17 : decode jdk_52_method_16_code 17 = .ok (.if_icmp .eq 40, 3) := by decide +kernel
theorem d9_20 : decode jdk_52_method_16_code 20 = .ok (.aload_n 0, 1) := by decide +kernel
theorem d9_21 : decode jdk_52_method_16_code 21 = .ok (.iload_n 1, 1) := by decide +kernel
theorem d9_22 : decode jdk_52_method_16_code 22 = .ok (.iload_n 2, 1) := by decide +kernel
theorem d9_23 : decode jdk_52_method_16_code 23 = .ok (.invokestatic 119, 3) := by decide +kernel
theorem d9_26 : decode jdk_52_method_16_code 26 = .ok (.astore 5, 2) := by decide +kernel
theorem d9_28 : decode jdk_52_method_16_code 28 = .ok (.aload 5, 2) := by decide +kernel
theorem d9_30 : decode jdk_52_method_16_code 30 = .ok (.iload 4, 2) := by decide +kernel
theorem d9_32 : decode jdk_52_method_16_code 32 = .ok (.invokestatic 71, 3) := by decide +kernel
theorem d9_35 : decode jdk_52_method_16_code 35 = .ok (.sipush 255, 3) := by decide +kernel
theorem d9_38 : decode jdk_52_method_16_code 38 = .ok (.if_icmp .gt 16, 3) := by decide +kernel
theorem d9_54 : decode jdk_52_method_16_code 54 = .ok (.aload 5, 2) := by decide +kernel
theorem d9_56 : decode jdk_52_method_16_code 56 = .ok (.areturn, 1) := by decide +kernel
theorem pn_9 : plainName "java/lang/StringUTF16" = true := by first | (simp [plainName, overriddenIn]; done) | decide +kernel
theorem pd_9___CI_BII_I : parseMethodDescriptor "([CI[BII)I" = some ⟨[(.array .char), .int, (.array .byte), .int, .int], some .int⟩ := by decide +kernel
theorem pd_9___CII__B : parseMethodDescriptor "([CII)[B" = some ⟨[(.array .char), .int, .int], some (.array .byte)⟩ := by decide +kernel
theorem pd_9___BI_C : parseMethodDescriptor "([BI)C" = some ⟨[(.array .byte), .int], some .char⟩ := by decide +kernel
theorem ef_cB1 (m : MethodId) (x0 : Addr) (x1 : Int32) (x2 : Int32) : entryFrame m #[(.ref x0), (.int x1), (.int x2)] 6 = mkF m 0 #[.val (.ref x0), .val (.int x1), .val (.int x2), .unset, .unset, .unset] [] := by first | (simp [entryFrame, mkF, argsToLocals, Value.category]; done) | rfl
def QcB1 (Z : State) (a : Addr) (kC : ClassId) (c0 : Int32) (GA : Int32) (GB : Value) (h0 : Heap) (n0 : Nat) (v : Option Value) (h : Heap) (L : List Loc) : Prop := ∃ (b : Addr) (kb : ClassId), v = some (.ref b) ∧ Fr n0 L ∧ Keep h0 h [] ∧ n0 ≤ b ∧ h0.size ≤ b ∧ Arv Z h b kb .byte (2 : Int32) [(.int (bA c0)), (.int (bB c0))] (.int (0 : Int32))
set_option maxRecDepth 65536 in
set_option maxHeartbeats 40000000 in
theorem rmcB1 (l : Launch) (Z : State) (a0 : Array Value) (hw : ∀ d ∈ tables_1, d.before a0 Z = true) (ws : List Jvm.Cond) (a : Addr) (kC : ClassId) (c0 : Int32) (GA : Int32) (GB : Value) (h0 : Heap) (n0 : Nat) (Z0 : n0 ≤ h0.size) (SS : own_St Z GA GB) (X00 : Old Z n0 h0) (AC : Arv Z h0 a kC .char (1 : Int32) [(.int c0)] (.int (0 : Int32))) (r0 : own_rg c0) (hwd : ¬ (¬ (255 : Int32) < c0)) :
    MetFree l (⟨"java/lang/StringUTF16", "compress", "([CII)[B"⟩ : MethodName) (head1 (Jvm.Cond.code (⟨"java/lang/StringUTF16", "compress", "([CII)[B"⟩ : MethodName) jdk_52_method_16_code 6 (some (.array .byte)) :: ws) ({ frames := 3, cells := 2, slots := 3, locals := 42 } : Room)) (fun aa U => aa = #[(.ref a), (.int (0 : Int32)), (.int (1 : Int32))] ∧ Z.Warmed39 U.vm ∧ U.heap = h0) (fun _ _ _ _ _ => True) (fun _ U oo U' => ∃ vv LL, oo = .returned vv ∧ QcB1 Z a kC c0 GA GB h0 n0 vv U'.heap LL ∧ FrameEnd U oo U' LL ({ frames := 3, cells := 2, slots := 3, locals := 42 } : Room).cells ({ frames := 3, cells := 2, slots := 3, locals := 42 } : Room).slots) := by
  refine MetFree.of_bodySF (plainFor_of_name pn_9) hisR ?_
  intro p e s m args below meth c s₁ Bd hml0 hP hK
  obtain ⟨rfl, hZ, hh⟩ := hP
  have hx := Bd.exec
  have hby := Bd.bytes
  have hml : c.maxLocals = 6 := hml0
  have hown : s.vm.findClass "java/lang/StringUTF16" = some m.cls := findClass_of_methodNamed Bd.named
  have hnm := (name_of_methodNamed Bd.named Bd.method).1
  have X0 : Stand p l e ({ frames := 3, cells := 2, slots := 3, locals := 42 } : Room) s m #[(.ref a), (.int (0 : Int32)), (.int (1 : Int32))] below meth c s₁ [] 0 0 := Stand.of_body Bd
  have e0 : s₁.heap = h0 := by rw [← hh, Bd.state]; rfl
  have N0 := Fr.nil n0
  show Goes p e below _ (s₁.setTop (entryFrame m #[(.ref a), (.int (0 : Int32)), (.int (1 : Int32))] 6))
  refine Goes.on (B := s₁.setTop (mkF m 0 #[.val (.ref a), .val (.int (0 : Int32)), .val (.int (1 : Int32)), .unset, .unset, .unset] [])) (fun t k => castTop (ef_cB1 m a (0 : Int32) (1 : Int32)) k) ?_
  refine Goes.on (B := s₁.setTop (mkF m 1 #[.val (.ref a), .val (.int (0 : Int32)), .val (.int (1 : Int32)), .unset, .unset, .unset] [(.int (1 : Int32))])) (fun _ k => XS.iloadN X0.here hx rfl (hb hby d9_0) rfl  k) ?_
  obtain ⟨T1, h1, k1, X1, e1, E1, A1, st1⟩ := newP X0 hx hZ (hw _ (om 23 rfl)) e0 (g := (mkF m 1 #[.val (.ref a), .val (.int (0 : Int32)), .val (.int (1 : Int32)), .unset, .unset, .unset] [(.int (1 : Int32))])) rfl (hb hby d9_1) rfl (by decide) (cap := 1) (by decide) (by decide) (by decide) (by decide)
  obtain ⟨b1, g1⟩ : ∃ z, z = h0.size := ⟨_, rfl⟩
  rw [← g1] at A1 st1
  have ne_a_b1 : a ≠ b1 := Nat.ne_of_lt (Nat.lt_of_lt_of_le AC.lt (Nat.le_of_eq g1.symm))
  have f2 := X00.ext E1
  have f3 := AC.ext E1
  have z4 : n0 ≤ h1.size := Nat.le_trans Z0 E1.1
  have K5 : Keep h0 h1 [] := (Keep.refl h0 []).ext E1
  have g_b1 : n0 ≤ b1 := Nat.le_trans Z0 (Nat.le_of_eq g1.symm)
  have sz_b1 : h0.size ≤ b1 := Nat.le_trans (Keep.refl h0 []).1 (Nat.le_of_eq g1.symm)
  have V1 : Arv Z h1 b1 k1 .byte (1 : Int32) [(.int (0 : Int32))] (.int (0 : Int32)) := (Arv.new A1 (by decide)).pad (pad_rep [] (.int (0 : Int32)) 1)
  refine Goes.on (B := T1.setTop (mkF m 3 #[.val (.ref a), .val (.int (0 : Int32)), .val (.int (1 : Int32)), .unset, .unset, .unset] [(.ref b1)])) (fun t k => st1 t k) ?_
  refine Goes.on (B := T1.setTop (mkF m 9 #[.val (.ref a), .val (.int (0 : Int32)), .val (.int (1 : Int32)), .val (.ref b1), .unset, .unset] [(.int (1 : Int32)), (.int (0 : Int32)), (.ref b1), (.int (0 : Int32)), (.ref a)])) (fun _ k => XS.astoreN X1.here hx rfl (hb hby d9_3) rfl rfl (l' := #[.val (.ref a), .val (.int (0 : Int32)), .val (.int (1 : Int32)), .val (.ref b1), .unset, .unset]) rfl (XS.aloadN X1.here hx rfl (hb hby d9_4) rfl rfl  (XS.iloadN X1.here hx rfl (hb hby d9_5) rfl  (XS.aloadN X1.here hx rfl (hb hby d9_6) rfl rfl  (XS.iconst X1.here hx rfl (hb hby d9_7) (XS.iloadN X1.here hx rfl (hb hby d9_8) rfl  k)))))) ?_
  obtain ⟨_, _, ⟨T6, L6, k6, n6⟩, -, X6, ⟨Lc6, hQ6, l6, y6, z6⟩, st6⟩ := Jvm.LawKit.callS X1 hx (y := (⟨"java/lang/StringUTF16", "compress", "([CI[BII)I"⟩ : MethodName)) hown (mvT hZ (hw _ (om 53 rfl))) (mvT hZ (hw _ (om 54 rfl))) (mvT hZ (hw _ (om 51 rfl))) (mvT hZ (hw _ (om 55 rfl))) (by decide) (backOf (W := 0) (rmcI1 l Z a0 hw [] a b1 kC k1 c0 h1 n0 z4 f2 f3 V1 g_b1 ne_a_b1 r0 hwd) hZ (hw _ (om 55 rfl)) (hw _ (om 51 rfl)) (by decide) (by decide)) (g := (mkF m 9 #[.val (.ref a), .val (.int (0 : Int32)), .val (.int (1 : Int32)), .val (.ref b1), .unset, .unset] [(.int (1 : Int32)), (.int (0 : Int32)), (.ref b1), (.int (0 : Int32)), (.ref a)])) rfl (by rw [hml]; rfl) (argsL := [(.ref a), (.int (0 : Int32)), (.ref b1), (.int (0 : Int32)), (.int (1 : Int32))]) (rest := []) (lenOf pd_9___CI_BII_I rfl) rfl (by show 2 * 0 + _ ≤ _; exact Nat.le_of_eq rfl) (hb hby d9_9) (fun _ _ => ⟨rfl, e1, (by decide : 1 + 0 ≤ _), (by decide : 1 + 0 ≤ _)⟩)
  dsimp only [Pt.U, Pt.locs, Pt.cells, Pt.slots] at X6 l6 y6 z6 st6 hQ6
  subst l6 y6 z6
  obtain ⟨ii, y, rfl, Nq6, Kq6, hne, hwy, ry, hi0, hi1, ha0, ha1⟩ := hQ6
  obtain ⟨h6, eh6⟩ : ∃ h, T6.heap = h := ⟨_, rfl⟩
  rw [eh6] at Kq6
  have f7 := f2.keep Kq6 (allS g_b1 all0)
  have f8 := f3.keep Kq6 (ninS ne_a_b1 nin0)
  have z9 : n0 ≤ h6.size := Nat.le_trans z4 Kq6.1
  have K10 : Keep h0 h6 [] := K5.trans Kq6 (allS (Or.inr sz_b1) all0)
  have N6 := Fr.app N0 Nq6
  refine Goes.on (B := T6.setTop (mkF m 12 #[.val (.ref a), .val (.int (0 : Int32)), .val (.int (1 : Int32)), .val (.ref b1), .unset, .unset] [(.int ii)])) (fun t k => st6 t k) ?_
  refine Goes.on (B := T6.setTop (mkF m 23 #[.val (.ref a), .val (.int (0 : Int32)), .val (.int (1 : Int32)), .val (.ref b1), .val (.int ii), .unset] [(.int (1 : Int32)), (.int (0 : Int32)), (.ref a)])) (fun _ k => XS.istore X6.here hx rfl (hb hby d9_12) rfl (l' := #[.val (.ref a), .val (.int (0 : Int32)), .val (.int (1 : Int32)), .val (.ref b1), .val (.int ii), .unset]) rfl (XS.iload X6.here hx rfl (hb hby d9_14) rfl  (XS.iloadN X6.here hx rfl (hb hby d9_16) rfl  (XS.icmpNo X6.here hx rfl (hb hby d9_17) rfl (feq hne).1 (XS.aloadN X6.here hx rfl (hb hby d9_20) rfl rfl  (XS.iloadN X6.here hx rfl (hb hby d9_21) rfl  (XS.iloadN X6.here hx rfl (hb hby d9_22) rfl  k))))))) ?_
  obtain ⟨_, _, ⟨T11, L11, k11, n11⟩, -, X11, ⟨Lc11, hQ11, l11, y11, z11⟩, st11⟩ := Jvm.LawKit.callS X6 hx (y := (⟨"java/lang/StringUTF16", "toBytes", "([CII)[B"⟩ : MethodName)) hown (mvT hZ (hw _ (om 90 rfl))) (mvT hZ (hw _ (om 91 rfl))) (mvT hZ (hw _ (om 51 rfl))) (mvT hZ (hw _ (om 92 rfl))) (by decide) (backOf (W := 0) (rmtb1 l Z a0 hw [] a kC c0 GA GB h6 n0 z9 SS f7 f8) hZ (hw _ (om 92 rfl)) (hw _ (om 51 rfl)) (by decide) (by decide)) (g := (mkF m 23 #[.val (.ref a), .val (.int (0 : Int32)), .val (.int (1 : Int32)), .val (.ref b1), .val (.int ii), .unset] [(.int (1 : Int32)), (.int (0 : Int32)), (.ref a)])) rfl (by rw [hml]; rfl) (argsL := [(.ref a), (.int (0 : Int32)), (.int (1 : Int32))]) (rest := []) (lenOf pd_9___CII__B rfl) rfl (by show 2 * 0 + _ ≤ _; exact Nat.le_of_eq rfl) (hb hby d9_23) (fun _ _ => ⟨rfl, eh6, (by decide : 1 + 1 ≤ _), (by decide : 1 + 2 ≤ _)⟩)
  dsimp only [Pt.U, Pt.locs, Pt.cells, Pt.slots] at X11 l11 y11 z11 st11 hQ11
  subst l11 y11 z11
  obtain ⟨b11, kb11, rfl, Nq11, Kq11, g_b11, sq_b11, Vq11⟩ := hQ11
  obtain ⟨h11, eh11⟩ : ∃ h, T11.heap = h := ⟨_, rfl⟩
  rw [eh11] at Kq11 Vq11
  have ne_a_b11 : a ≠ b11 := Nat.ne_of_lt (Nat.lt_of_lt_of_le f8.lt sq_b11)
  have f12 := f7.keep Kq11 (all0)
  have f13 := f8.keep Kq11 nin0
  have z14 : n0 ≤ h11.size := Nat.le_trans z9 Kq11.1
  have K15 : Keep h0 h11 [] := K10.trans Kq11 all0
  have sz_b11 : h0.size ≤ b11 := Nat.le_trans K10.1 sq_b11
  have N11 := Fr.app N6 Nq11
  refine Goes.on (B := T11.setTop (mkF m 26 #[.val (.ref a), .val (.int (0 : Int32)), .val (.int (1 : Int32)), .val (.ref b1), .val (.int ii), .unset] [(.ref b11)])) (fun t k => st11 t k) ?_
  refine Goes.on (B := T11.setTop (mkF m 32 #[.val (.ref a), .val (.int (0 : Int32)), .val (.int (1 : Int32)), .val (.ref b1), .val (.int ii), .val (.ref b11)] [(.int ii), (.ref b11)])) (fun _ k => XS.astore X11.here hx rfl (hb hby d9_26) rfl rfl (l' := #[.val (.ref a), .val (.int (0 : Int32)), .val (.int (1 : Int32)), .val (.ref b1), .val (.int ii), .val (.ref b11)]) rfl (XS.aload X11.here hx rfl (hb hby d9_28) rfl rfl  (XS.iload X11.here hx rfl (hb hby d9_30) rfl  k))) ?_
  obtain ⟨_, _, ⟨T16, L16, k16, n16⟩, -, X16, ⟨Lc16, hQ16, l16, y16, z16⟩, st16⟩ := Jvm.LawKit.callS X11 hx (y := (⟨"java/lang/StringUTF16", "getChar", "([BI)C"⟩ : MethodName)) hown (mvT hZ (hw _ (om 106 rfl))) (mvT hZ (hw _ (om 107 rfl))) (mvT hZ (hw _ (om 51 rfl))) (mvT hZ (hw _ (om 108 rfl))) (by decide) (backOf (W := 0) (rmgc l Z a0 hw [] b11 ii kb11 (2 : Int32) [(.int (bA c0)), (.int (bB c0))] y GA GB h11 n0 z14 SS f12 Vq11 hi0 hi1 ha0 ha1 ry) hZ (hw _ (om 108 rfl)) (hw _ (om 51 rfl)) (by decide) (by decide)) (g := (mkF m 32 #[.val (.ref a), .val (.int (0 : Int32)), .val (.int (1 : Int32)), .val (.ref b1), .val (.int ii), .val (.ref b11)] [(.int ii), (.ref b11)])) rfl (by rw [hml]; rfl) (argsL := [(.ref b11), (.int ii)]) (rest := []) (lenOf pd_9___BI_C rfl) rfl (by show 2 * 0 + _ ≤ _; exact Nat.le_of_eq rfl) (hb hby d9_32) (fun _ _ => ⟨rfl, eh11, (by decide : 2 + 0 ≤ _), (by decide : 3 + 0 ≤ _)⟩)
  dsimp only [Pt.U, Pt.locs, Pt.cells, Pt.slots] at X16 l16 y16 z16 st16 hQ16
  subst l16 y16 z16
  obtain ⟨rfl, Nq16, eh16⟩ := hQ16
  have N16 := Fr.app N11 Nq16
  refine Goes.on (B := T16.setTop (mkF m 35 #[.val (.ref a), .val (.int (0 : Int32)), .val (.int (1 : Int32)), .val (.ref b1), .val (.int ii), .val (.ref b11)] [(.int y)])) (fun t k => st16 t k) ?_
  refine Goes.on (B := T16.setTop (mkF m 56 #[.val (.ref a), .val (.int (0 : Int32)), .val (.int (1 : Int32)), .val (.ref b1), .val (.int ii), .val (.ref b11)] [(.ref b11)])) (fun _ k => XS.sipush X16.here hx rfl (hb hby d9_35) (XS.icmpYes X16.here hx rfl (pc0 := 38) (pc' := 54) rfl (hb hby d9_38) rfl (tlt hwy).2.2.1 (by decide) (by decide) (XS.aload X16.here hx rfl (hb hby d9_54) rfl rfl  k))) ?_
  obtain ⟨fs, hr, hrun, hended, hW, hsame⟩ := X16.leave (v := some (.ref b11)) (fun h => by rw [Bd.returns] at h; cases h)
  exact Goes.leaf (own_retR X16 hx Bd.returns rfl rfl (hb hby d9_56) hr) hrun hended ⟨_, _, rfl, by show QcB1 Z a kC c0 GA GB h0 n0 _ T16.heap _; rw [eh16]; exact ⟨b11, _, rfl, N16, K15, g_b11, sz_b11, Vq11⟩, ⟨_, rfl⟩, hW, hsame.mono (by decide) (by decide)⟩
theorem d11_0 : decode jdk_52_method_15_code 0 = .ok (.iload_n 1, 1) := by decide +kernel
theorem d11_1 : decode jdk_52_method_15_code 1 = .ok (.aload_n 0, 1) := by decide +kernel
theorem d11_2 : decode jdk_52_method_15_code 2 = .ok (.arraylength, 1) := by decide +kernel
theorem d11_3 : decode jdk_52_method_15_code 3 = .ok (.isub, 1) := by decide +kernel
theorem d11_4 : decode jdk_52_method_15_code 4 = .ok (.bipush 31, 2) := by decide +kernel
theorem d11_6 : decode jdk_52_method_15_code 6 = .ok (.iushr, 1) := by decide +kernel
theorem d11_7 : decode jdk_52_method_15_code 7 = .ok (.i2b, 1) := by decide +kernel
theorem d11_8 : decode jdk_52_method_15_code 8 = .ok (.ireturn, 1) := by decide +kernel
theorem pn_11 : plainName "java/lang/StringUTF16" = true := by first | (simp [plainName, overriddenIn]; done) | decide +kernel
theorem ef_cf1 (m : MethodId) (x0 : Addr) (x1 : Int32) : entryFrame m #[(.ref x0), (.int x1)] 2 = mkF m 0 #[.val (.ref x0), .val (.int x1)] [] := by first | (simp [entryFrame, mkF, argsToLocals, Value.category]; done) | rfl
def Qcf1 (Z : State) (a : Addr) (kA : ClassId) (vs : List Value) (h0 : Heap) (n0 : Nat) (v : Option Value) (h : Heap) (L : List Loc) : Prop := v = some (.int (1 : Int32)) ∧ Fr n0 L ∧ h = h0
set_option maxRecDepth 65536 in
set_option maxHeartbeats 40000000 in
theorem rmcf1 (l : Launch) (Z : State) (a0 : Array Value) (hw : ∀ d ∈ tables_1, d.before a0 Z = true) (ws : List Jvm.Cond) (a : Addr) (kA : ClassId) (vs : List Value) (h0 : Heap) (n0 : Nat) (Z0 : n0 ≤ h0.size) (AV : Arv Z h0 a kA .byte (2 : Int32) vs (.int (0 : Int32))) :
    MetFree l (⟨"java/lang/StringUTF16", "coderFromArrayLen", "([BI)B"⟩ : MethodName) (head1 (Jvm.Cond.code (⟨"java/lang/StringUTF16", "coderFromArrayLen", "([BI)B"⟩ : MethodName) jdk_52_method_15_code 2 (some .byte) :: ws) ({ frames := 0, cells := 0, slots := 0, locals := 0 } : Room)) (fun aa U => aa = #[(.ref a), (.int (1 : Int32))] ∧ Z.Warmed39 U.vm ∧ U.heap = h0) (fun _ _ _ _ _ => True) (fun _ U oo U' => ∃ vv LL, oo = .returned vv ∧ Qcf1 Z a kA vs h0 n0 vv U'.heap LL ∧ FrameEnd U oo U' LL ({ frames := 0, cells := 0, slots := 0, locals := 0 } : Room).cells ({ frames := 0, cells := 0, slots := 0, locals := 0 } : Room).slots) := by
  refine MetFree.of_bodySF (plainFor_of_name pn_11) hisR ?_
  intro p e s m args below meth c s₁ Bd hml0 hP hK
  obtain ⟨rfl, hZ, hh⟩ := hP
  have hx := Bd.exec
  have hby := Bd.bytes
  have hml : c.maxLocals = 2 := hml0
  have hown : s.vm.findClass "java/lang/StringUTF16" = some m.cls := findClass_of_methodNamed Bd.named
  have hnm := (name_of_methodNamed Bd.named Bd.method).1
  have X0 : Stand p l e ({ frames := 0, cells := 0, slots := 0, locals := 0 } : Room) s m #[(.ref a), (.int (1 : Int32))] below meth c s₁ [] 0 0 := Stand.of_body Bd
  have e0 : s₁.heap = h0 := by rw [← hh, Bd.state]; rfl
  have N0 := Fr.nil n0
  show Goes p e below _ (s₁.setTop (entryFrame m #[(.ref a), (.int (1 : Int32))] 2))
  refine Goes.on (B := s₁.setTop (mkF m 0 #[.val (.ref a), .val (.int (1 : Int32))] [])) (fun t k => castTop (ef_cf1 m a (1 : Int32)) k) ?_
  refine Goes.on (B := s₁.setTop (mkF m 2 #[.val (.ref a), .val (.int (1 : Int32))] [(.ref a), (.int (1 : Int32))])) (fun _ k => XS.iloadN X0.here hx rfl (hb hby d11_0) rfl  (XS.aloadN X0.here hx rfl (hb hby d11_1) rfl rfl  k)) ?_
  obtain ⟨cl1, Ar1, -, S1, Nn1, -, -⟩ := id AV
  refine Goes.on (B := s₁.setTop (mkF m 3 #[.val (.ref a), .val (.int (1 : Int32))] [(.int (2 : Int32)), (.int (1 : Int32))])) (fun t k => X0.arraylength hx (by rw [e0]; exact Ar1.1) (State.isArrayOf_alike hZ.alike Ar1.2.1) (g := (mkF m 2 #[.val (.ref a), .val (.int (1 : Int32))] [(.ref a), (.int (1 : Int32))])) rfl rfl (hb hby d11_2) t (by rw [len_of S1 Nn1]; exact k)) ?_
  refine Goes.on (B := s₁.setTop (mkF m 8 #[.val (.ref a), .val (.int (1 : Int32))] [(.int (1 : Int32))])) (fun _ k => XS.isub X0.here hx rfl (hb hby d11_3) rfl (XS.bipush X0.here hx rfl (hb hby d11_4) (XS.iushr X0.here hx rfl (hb hby d11_6) rfl (XS.i2b X0.here hx rfl (hb hby d11_7) rfl k)))) ?_
  obtain ⟨fs, hr, hrun, hended, hW, hsame⟩ := X0.leave (v := some (.int (1 : Int32))) (fun h => by rw [Bd.returns] at h; cases h)
  exact Goes.leaf (retN X0 hx (t := .byte) Bd.returns (by simp) (hb hby d11_8) hr) hrun hended ⟨_, _, rfl, by show Qcf1 Z a kA vs h0 n0 _ s₁.heap _; rw [e0]; exact ⟨rfl, N0, rfl⟩, ⟨_, rfl⟩, hW, hsame.mono (by decide) (by decide)⟩
theorem d4_0 : decode jdk_42_method_149_code 0 = .ok (.aload_n 0, 1) := by decide +kernel
theorem d4_1 : decode jdk_42_method_149_code 1 = .ok (.invokespecial 1, 3) := by decide +kernel
theorem d4_4 : decode jdk_42_method_149_code 4 = .ok (.iload_n 3, 1) := by decide +kernel
theorem d4_5 : decode jdk_42_method_149_code 5 = .ok (.ifCond .ne 22, 3) := by decide +kernel
theorem d4_27 : decode jdk_42_method_149_code 27 = .ok (.getstatic 38, 3) := by decide +kernel
theorem d4_30 : decode jdk_42_method_149_code 30 = .ok (.ifCond .eq 28, 3) := by decide +kernel
theorem d4_33 : decode jdk_42_method_149_code 33 = .ok (.aload_n 1, 1) := by decide +kernel
theorem d4_34 : decode jdk_42_method_149_code 34 = .ok (.iload_n 2, 1) := by decide +kernel
theorem d4_35 : decode jdk_42_method_149_code 35 = .ok (.iload_n 3, 1) := by decide +kernel
theorem d4_36 : decode jdk_42_method_149_code 36 = .ok (.invokestatic 177, 3) := by decide +kernel
theorem d4_39 : decode jdk_42_method_149_code 39 = .ok (.astore 5, 2) := by decide +kernel
theorem d4_41 : decode jdk_42_method_149_code 41 = .ok (.aload_n 0, 1) := by decide +kernel
theorem d4_42 : decode jdk_42_method_149_code 42 = .ok (.aload 5, 2) := by decide +kernel
theorem d4_44 : decode jdk_42_method_149_code 44 = .ok (.iload_n 3, 1) := by decide +kernel
theorem d4_45 : decode jdk_42_method_149_code 45 = .ok (.invokestatic 47, 3) := by decide +kernel
theorem d4_48 : decode jdk_42_method_149_code 48 = .ok (.putfield 15, 3) := by decide +kernel
theorem d4_51 : decode jdk_42_method_149_code 51 = .ok (.aload_n 0, 1) := by decide +kernel
theorem d4_52 : decode jdk_42_method_149_code 52 = .ok (.aload 5, 2) := by decide +kernel
theorem d4_54 : decode jdk_42_method_149_code 54 = .ok (.putfield 9, 3) := by decide +kernel
theorem d4_57 : decode jdk_42_method_149_code 57 = .ok (.return_, 1) := by decide +kernel
theorem pn_4 : plainName "java/lang/String" = true := by first | (simp [plainName, overriddenIn]; done) | decide +kernel
theorem pd_4___CII__B : parseMethodDescriptor "([CII)[B" = some ⟨[(.array .char), .int, .int], some (.array .byte)⟩ := by decide +kernel
theorem pd_4___BI_B : parseMethodDescriptor "([BI)B" = some ⟨[(.array .byte), .int], some .byte⟩ := by decide +kernel
theorem ef_v1 (m : MethodId) (x0 : Addr) (x1 : Addr) (x2 : Int32) (x3 : Int32) : entryFrame m #[(.ref x0), (.ref x1), (.int x2), (.int x3), .null] 6 = mkF m 0 #[.val (.ref x0), .val (.ref x1), .val (.int x2), .val (.int x3), .val .null, .unset] [] := by first | (simp [entryFrame, mkF, argsToLocals, Value.category]; done) | rfl
def Qv1 (Z : State) (x : Addr) (a : Addr) (kC : ClassId) (c0 : Int32) (GA : Int32) (GB : Value) (h0 : Heap) (n0 : Nat) (v : Option Value) (h : Heap) (L : List Loc) : Prop := v = none ∧ Fr n0 L ∧ Keep h0 h [x] ∧ Exa Z h x "java/lang/String" ∧ Fld Z h x "java/lang/String" "coder" "B" (.int (1 : Int32)) ∧ ∃ (t : Addr) (kb : ClassId), n0 ≤ t ∧ Fld Z h x "java/lang/String" "value" "[B" (.ref t) ∧ Arv Z h t kb .byte (2 : Int32) [(.int (bA c0)), (.int (bB c0))] (.int (0 : Int32))
set_option maxRecDepth 65536 in
set_option maxHeartbeats 40000000 in
theorem rmv1 (l : Launch) (Z : State) (a0 : Array Value) (hw : ∀ d ∈ tables_1, d.before a0 Z = true) (ws : List Jvm.Cond) (x : Addr) (a : Addr) (kC : ClassId) (c0 : Int32) (GA : Int32) (GB : Value) (h0 : Heap) (n0 : Nat) (Z0 : n0 ≤ h0.size) (SS : own_St Z GA GB) (X00 : Old Z n0 h0) (EX : Exa Z h0 x "java/lang/String") (FC : Fld Z h0 x "java/lang/String" "coder" "B" (.int (0 : Int32))) (FV : Fld Z h0 x "java/lang/String" "value" "[B" .null) (gx : n0 ≤ x) (AC : Arv Z h0 a kC .char (1 : Int32) [(.int c0)] (.int (0 : Int32))) (r0 : own_rg c0) (hwd : ¬ (¬ (255 : Int32) < c0)) :
    MetFree l (⟨"java/lang/String", "<init>", "([CIILjava/lang/Void;)V"⟩ : MethodName) (head1 (Jvm.Cond.code (⟨"java/lang/String", "<init>", "([CIILjava/lang/Void;)V"⟩ : MethodName) jdk_42_method_149_code 6 none :: ws) ({ frames := 4, cells := 2, slots := 3, locals := 60 } : Room)) (fun aa U => aa = #[(.ref x), (.ref a), (.int (0 : Int32)), (.int (1 : Int32)), .null] ∧ Z.Warmed39 U.vm ∧ U.heap = h0) (fun _ _ _ _ _ => True) (fun _ U oo U' => ∃ vv LL, oo = .returned vv ∧ Qv1 Z x a kC c0 GA GB h0 n0 vv U'.heap LL ∧ FrameEnd U oo U' LL ({ frames := 4, cells := 2, slots := 3, locals := 60 } : Room).cells ({ frames := 4, cells := 2, slots := 3, locals := 60 } : Room).slots) := by
  refine MetFree.of_bodySF (plainFor_of_name pn_4) hisR ?_
  intro p e s m args below meth c s₁ Bd hml0 hP hK
  obtain ⟨rfl, hZ, hh⟩ := hP
  have hx := Bd.exec
  have hby := Bd.bytes
  have hml : c.maxLocals = 6 := hml0
  have hown : s.vm.findClass "java/lang/String" = some m.cls := findClass_of_methodNamed Bd.named
  have hnm := (name_of_methodNamed Bd.named Bd.method).1
  have X0 : Stand p l e ({ frames := 4, cells := 2, slots := 3, locals := 60 } : Room) s m #[(.ref x), (.ref a), (.int (0 : Int32)), (.int (1 : Int32)), .null] below meth c s₁ [] 0 0 := Stand.of_body Bd
  have e0 : s₁.heap = h0 := by rw [← hh, Bd.state]; rfl
  have N0 := Fr.nil n0
  show Goes p e below _ (s₁.setTop (entryFrame m #[(.ref x), (.ref a), (.int (0 : Int32)), (.int (1 : Int32)), .null] 6))
  refine Goes.on (B := s₁.setTop (mkF m 0 #[.val (.ref x), .val (.ref a), .val (.int (0 : Int32)), .val (.int (1 : Int32)), .val .null, .unset] [])) (fun t k => castTop (ef_v1 m x a (0 : Int32) (1 : Int32)) k) ?_
  refine Goes.on (B := s₁.setTop (mkF m 1 #[.val (.ref x), .val (.ref a), .val (.int (0 : Int32)), .val (.int (1 : Int32)), .val .null, .unset] [(.ref x)])) (fun _ k => XS.aloadN X0.here hx rfl (hb hby d4_0) rfl rfl  k) ?_
  obtain ⟨T1, X1, e1, st1⟩ := initO X0 hx hZ hown (hw _ (om 19 rfl)) (hw _ (om 20 rfl)) (hw _ (om 21 rfl)) e0 (g := (mkF m 1 #[.val (.ref x), .val (.ref a), .val (.int (0 : Int32)), .val (.int (1 : Int32)), .val .null, .unset] [(.ref x)])) rfl (by rw [hml]; rfl) rfl (hb hby d4_1) (by decide) (W := 0) (by show 2 * 0 + _ ≤ _; exact Nat.le_of_eq rfl) (by decide)
  refine Goes.on (B := T1.setTop (mkF m 4 #[.val (.ref x), .val (.ref a), .val (.int (0 : Int32)), .val (.int (1 : Int32)), .val .null, .unset] [])) (fun t k => st1 t k) ?_
  refine Goes.on (B := T1.setTop (mkF m 27 #[.val (.ref x), .val (.ref a), .val (.int (0 : Int32)), .val (.int (1 : Int32)), .val .null, .unset] [])) (fun _ k => XS.iloadN X1.here hx rfl (hb hby d4_4) rfl  (XS.ifYes X1.here hx rfl (pc0 := 5) (pc' := 27) rfl (hb hby d4_5) rfl ((if0 _ _).trans (feq (by decide)).2) (by decide) (by decide) k)) ?_
  obtain ⟨T2, X2, e2, st2⟩ := getS2 X1 hx hZ hown (host := "") (Or.inl (hw _ (om 48 rfl))) Via.refl e1 (SS.1.ext X00.2) (g := (mkF m 27 #[.val (.ref x), .val (.ref a), .val (.int (0 : Int32)), .val (.int (1 : Int32)), .val .null, .unset] [])) rfl (hb hby d4_27)
  refine Goes.on (B := T2.setTop (mkF m 30 #[.val (.ref x), .val (.ref a), .val (.int (0 : Int32)), .val (.int (1 : Int32)), .val .null, .unset] [(.int GA)])) (fun t k => st2 t k) ?_
  refine Goes.on (B := T2.setTop (mkF m 36 #[.val (.ref x), .val (.ref a), .val (.int (0 : Int32)), .val (.int (1 : Int32)), .val .null, .unset] [(.int (1 : Int32)), (.int (0 : Int32)), (.ref a)])) (fun _ k => XS.ifNo X2.here hx rfl (hb hby d4_30) rfl ((if0 _ _).trans (feq SS.2.1).1) (XS.aloadN X2.here hx rfl (hb hby d4_33) rfl rfl  (XS.iloadN X2.here hx rfl (hb hby d4_34) rfl  (XS.iloadN X2.here hx rfl (hb hby d4_35) rfl  k)))) ?_
  obtain ⟨_, _, ⟨T3, L3, k3, n3⟩, -, X3, ⟨Lc3, hQ3, l3, y3, z3⟩, st3⟩ := Jvm.LawKit.callS X2 hx (y := (⟨"java/lang/StringUTF16", "compress", "([CII)[B"⟩ : MethodName)) hown (mvT hZ (hw _ (om 49 rfl))) (mvT hZ (hw _ (om 50 rfl))) (mvT hZ (hw _ (om 51 rfl))) (mvT hZ (hw _ (om 52 rfl))) (by decide) (backOf (W := 0) (rmcB1 l Z a0 hw [] a kC c0 GA GB h0 n0 Z0 SS X00 AC r0 hwd) hZ (hw _ (om 52 rfl)) (hw _ (om 51 rfl)) (by decide) (by decide)) (g := (mkF m 36 #[.val (.ref x), .val (.ref a), .val (.int (0 : Int32)), .val (.int (1 : Int32)), .val .null, .unset] [(.int (1 : Int32)), (.int (0 : Int32)), (.ref a)])) rfl (by rw [hml]; rfl) (argsL := [(.ref a), (.int (0 : Int32)), (.int (1 : Int32))]) (rest := []) (lenOf pd_4___CII__B rfl) rfl (by show 2 * 0 + _ ≤ _; exact Nat.le_of_eq rfl) (hb hby d4_36) (fun _ _ => ⟨rfl, e2, (by decide : 0 + 2 ≤ _), (by decide : 0 + 3 ≤ _)⟩)
  dsimp only [Pt.U, Pt.locs, Pt.cells, Pt.slots] at X3 l3 y3 z3 st3 hQ3
  subst l3 y3 z3
  obtain ⟨b3, kb3, rfl, Nq3, Kq3, g_b3, sq_b3, Vq3⟩ := hQ3
  obtain ⟨h3, eh3⟩ : ∃ h, T3.heap = h := ⟨_, rfl⟩
  rw [eh3] at Kq3 Vq3
  have ne_x_b3 : x ≠ b3 := Nat.ne_of_lt (Nat.lt_of_lt_of_le EX.lt sq_b3)
  have ne_a_b3 : a ≠ b3 := Nat.ne_of_lt (Nat.lt_of_lt_of_le AC.lt sq_b3)
  have f4 := X00.keep Kq3 (all0)
  have f5 := EX.keep Kq3
  have f6 := FC.keep Kq3 nin0
  have f7 := FV.keep Kq3 nin0
  have f8 := AC.keep Kq3 nin0
  have z9 : n0 ≤ h3.size := Nat.le_trans Z0 Kq3.1
  have K10 : Keep h0 h3 [x] := (Keep.refl h0 [x]).trans Kq3 all0
  have sz_b3 : h0.size ≤ b3 := Nat.le_trans (Keep.refl h0 [x]).1 sq_b3
  have N3 := Fr.app N0 Nq3
  refine Goes.on (B := T3.setTop (mkF m 39 #[.val (.ref x), .val (.ref a), .val (.int (0 : Int32)), .val (.int (1 : Int32)), .val .null, .unset] [(.ref b3)])) (fun t k => st3 t k) ?_
  refine Goes.on (B := T3.setTop (mkF m 45 #[.val (.ref x), .val (.ref a), .val (.int (0 : Int32)), .val (.int (1 : Int32)), .val .null, .val (.ref b3)] [(.int (1 : Int32)), (.ref b3), (.ref x)])) (fun _ k => XS.astore X3.here hx rfl (hb hby d4_39) rfl rfl (l' := #[.val (.ref x), .val (.ref a), .val (.int (0 : Int32)), .val (.int (1 : Int32)), .val .null, .val (.ref b3)]) rfl (XS.aloadN X3.here hx rfl (hb hby d4_41) rfl rfl  (XS.aload X3.here hx rfl (hb hby d4_42) rfl rfl  (XS.iloadN X3.here hx rfl (hb hby d4_44) rfl  k)))) ?_
  obtain ⟨_, _, ⟨T11, L11, k11, n11⟩, -, X11, ⟨Lc11, hQ11, l11, y11, z11⟩, st11⟩ := Jvm.LawKit.callS X3 hx (y := (⟨"java/lang/StringUTF16", "coderFromArrayLen", "([BI)B"⟩ : MethodName)) hown (mvT hZ (hw _ (om 56 rfl))) (mvT hZ (hw _ (om 57 rfl))) (mvT hZ (hw _ (om 51 rfl))) (mvT hZ (hw _ (om 58 rfl))) (by decide) (backOf (W := 1) (rmcf1 l Z a0 hw [] b3 kb3 [(.int (bA c0)), (.int (bB c0))] h3 n0 z9 Vq3) hZ (hw _ (om 58 rfl)) (hw _ (om 51 rfl)) (by decide) (by decide)) (g := (mkF m 45 #[.val (.ref x), .val (.ref a), .val (.int (0 : Int32)), .val (.int (1 : Int32)), .val .null, .val (.ref b3)] [(.int (1 : Int32)), (.ref b3), (.ref x)])) rfl (by rw [hml]; rfl) (argsL := [(.ref b3), (.int (1 : Int32))]) (rest := [(.ref x)]) (lenOf pd_4___BI_B rfl) rfl (by show 2 * 0 + _ ≤ _; exact Nat.le_of_eq rfl) (hb hby d4_45) (fun _ _ => ⟨rfl, eh3, (by decide : 2 + 0 ≤ _), (by decide : 3 + 0 ≤ _)⟩)
  dsimp only [Pt.U, Pt.locs, Pt.cells, Pt.slots] at X11 l11 y11 z11 st11 hQ11
  subst l11 y11 z11
  obtain ⟨rfl, Nq11, eh11⟩ := hQ11
  have N11 := Fr.app N3 Nq11
  refine Goes.on (B := T11.setTop (mkF m 48 #[.val (.ref x), .val (.ref a), .val (.int (0 : Int32)), .val (.int (1 : Int32)), .val .null, .val (.ref b3)] [(.int (1 : Int32)), (.ref x)])) (fun t k => st11 t k) ?_
  obtain ⟨T12, h12, X12, e12, W12, st12⟩ := putF X11 hx hZ hown (host := "") (Or.inl (hw _ (om 29 rfl))) Via.refl eh11 f6 f5 (Or.inr ⟨(hw _ (om 25 rfl)), rfl, hnm⟩) (hw _ (om 9 rfl)) (ty := .byte) (by decide) rfl rfl (g := (mkF m 48 #[.val (.ref x), .val (.ref a), .val (.int (0 : Int32)), .val (.int (1 : Int32)), .val .null, .val (.ref b3)] [(.int (1 : Int32)), (.ref x)])) rfl rfl (hb hby d4_48)
  have f13 := f4.wr W12 gx
  have f14 := f5.wr W12
  have f15 := f6.same W12
  have f16 := f7.other W12 (Or.inr (slot_ne (Or.inr (hw _ (om 24 rfl))) (Or.inr (hw _ (om 25 rfl))) (by decide) (t := (.array .byte)) (t' := .byte) (by decide) (by decide)))
  have f17 := Vq3.other W12 (Ne.symm ne_x_b3)
  have z18 : n0 ≤ h12.size := Nat.le_trans z9 (Keep.of_wr W12).1
  have K19 : Keep h0 h12 [x] := K10.wr W12 (Or.inl (om 0 rfl))
  have N12 := Fr.snoc X12 N11 gx
  refine Goes.on (B := T12.setTop (mkF m 51 #[.val (.ref x), .val (.ref a), .val (.int (0 : Int32)), .val (.int (1 : Int32)), .val .null, .val (.ref b3)] [])) (fun t k => st12 t k) ?_
  refine Goes.on (B := T12.setTop (mkF m 54 #[.val (.ref x), .val (.ref a), .val (.int (0 : Int32)), .val (.int (1 : Int32)), .val .null, .val (.ref b3)] [(.ref b3), (.ref x)])) (fun _ k => XS.aloadN X12.here hx rfl (hb hby d4_51) rfl rfl  (XS.aload X12.here hx rfl (hb hby d4_52) rfl rfl  k)) ?_
  obtain ⟨T20, h20, X20, e20, W20, st20⟩ := putF X12 hx hZ hown (host := "") (Or.inl (hw _ (om 28 rfl))) Via.refl e12 f16 f14 (Or.inr ⟨(hw _ (om 24 rfl)), rfl, hnm⟩) (hw _ (om 9 rfl)) (ty := (.array .byte)) (by decide) rfl rfl (g := (mkF m 54 #[.val (.ref x), .val (.ref a), .val (.int (0 : Int32)), .val (.int (1 : Int32)), .val .null, .val (.ref b3)] [(.ref b3), (.ref x)])) rfl rfl (hb hby d4_54)
  have f21 := f13.wr W20 gx
  have f22 := f14.wr W20
  have f23 := f15.other W20 (Or.inr (slot_ne (Or.inr (hw _ (om 25 rfl))) (Or.inr (hw _ (om 24 rfl))) (by decide) (t := .byte) (t' := (.array .byte)) (by decide) (by decide)))
  have f24 := f16.same W20
  have f25 := f17.other W20 (Ne.symm ne_x_b3)
  have z26 : n0 ≤ h20.size := Nat.le_trans z18 (Keep.of_wr W20).1
  have K27 : Keep h0 h20 [x] := K19.wr W20 (Or.inl (om 0 rfl))
  have N20 := Fr.snoc X20 N12 gx
  refine Goes.on (B := T20.setTop (mkF m 57 #[.val (.ref x), .val (.ref a), .val (.int (0 : Int32)), .val (.int (1 : Int32)), .val .null, .val (.ref b3)] [])) (fun t k => st20 t k) ?_
  obtain ⟨fs, hr, hrun, hended, hW, hsame⟩ := X20.leave (v := none) (fun _ => rfl)
  exact Goes.leaf (X20.returnOut hx Bd.returns (hb hby d4_57) hr) hrun hended ⟨_, _, rfl, by show Qv1 Z x a kC c0 GA GB h0 n0 _ T20.heap _; rw [e20]; exact ⟨rfl, N20, K27, f22, f23, b3, _, g_b3, f24, f25⟩, ⟨_, rfl⟩, hW, hsame.mono (by decide) (by decide)⟩
theorem d3_0 : decode jdk_42_method_3_code 0 = .ok (.aload_n 0, 1) := by decide +kernel
theorem d3_1 : decode jdk_42_method_3_code 1 = .ok (.aload_n 1, 1) := by decide +kernel
theorem d3_2 : decode jdk_42_method_3_code 2 = .ok (.iconst 0, 1) := by decide +kernel
theorem d3_3 : decode jdk_42_method_3_code 3 = .ok (.aload_n 1, 1) := by decide +kernel
theorem d3_4 : decode jdk_42_method_3_code 4 = .ok (.arraylength, 1) := by decide +kernel
theorem d3_5 : decode jdk_42_method_3_code 5 = .ok (.aconst_null, 1) := by decide +kernel
theorem d3_6 : decode jdk_42_method_3_code 6 = .ok (.invokespecial 27, 3) := by decide +kernel
theorem d3_9 : decode jdk_42_method_3_code 9 = .ok (.return_, 1) := by decide +kernel
theorem pn_3 : plainName "java/lang/String" = true := by first | (simp [plainName, overriddenIn]; done) | decide +kernel
theorem pd_3___CIILjava_lang_Void__V : parseMethodDescriptor "([CIILjava/lang/Void;)V" = some ⟨[(.array .char), .int, .int, (.object "java/lang/Void")], none⟩ := by decide +kernel
theorem ef_u1 (m : MethodId) (x0 : Addr) (x1 : Addr) : entryFrame m #[(.ref x0), (.ref x1)] 2 = mkF m 0 #[.val (.ref x0), .val (.ref x1)] [] := by first | (simp [entryFrame, mkF, argsToLocals, Value.category]; done) | rfl
def Qu1 (Z : State) (x : Addr) (a : Addr) (kC : ClassId) (c0 : Int32) (GA : Int32) (GB : Value) (h0 : Heap) (n0 : Nat) (v : Option Value) (h : Heap) (L : List Loc) : Prop := v = none ∧ Fr n0 L ∧ Keep h0 h [x] ∧ Exa Z h x "java/lang/String" ∧ Fld Z h x "java/lang/String" "coder" "B" (.int (1 : Int32)) ∧ ∃ (t : Addr) (kb : ClassId), n0 ≤ t ∧ Fld Z h x "java/lang/String" "value" "[B" (.ref t) ∧ Arv Z h t kb .byte (2 : Int32) [(.int (bA c0)), (.int (bB c0))] (.int (0 : Int32))
set_option maxRecDepth 65536 in
set_option maxHeartbeats 40000000 in
theorem rmu1 (l : Launch) (Z : State) (a0 : Array Value) (hw : ∀ d ∈ tables_1, d.before a0 Z = true) (ws : List Jvm.Cond) (x : Addr) (a : Addr) (kC : ClassId) (c0 : Int32) (GA : Int32) (GB : Value) (h0 : Heap) (n0 : Nat) (Z0 : n0 ≤ h0.size) (SS : own_St Z GA GB) (X00 : Old Z n0 h0) (EX : Exa Z h0 x "java/lang/String") (FC : Fld Z h0 x "java/lang/String" "coder" "B" (.int (0 : Int32))) (FV : Fld Z h0 x "java/lang/String" "value" "[B" .null) (gx : n0 ≤ x) (AC : Arv Z h0 a kC .char (1 : Int32) [(.int c0)] (.int (0 : Int32))) (r0 : own_rg c0) (hwd : ¬ (¬ (255 : Int32) < c0)) :
    MetFree l (⟨"java/lang/String", "<init>", "([C)V"⟩ : MethodName) (head1 (Jvm.Cond.code (⟨"java/lang/String", "<init>", "([C)V"⟩ : MethodName) jdk_42_method_3_code 2 none :: ws) ({ frames := 5, cells := 2, slots := 3, locals := 77 } : Room)) (fun aa U => aa = #[(.ref x), (.ref a)] ∧ Z.Warmed39 U.vm ∧ U.heap = h0) (fun _ _ _ _ _ => True) (fun _ U oo U' => ∃ vv LL, oo = .returned vv ∧ Qu1 Z x a kC c0 GA GB h0 n0 vv U'.heap LL ∧ FrameEnd U oo U' LL ({ frames := 5, cells := 2, slots := 3, locals := 77 } : Room).cells ({ frames := 5, cells := 2, slots := 3, locals := 77 } : Room).slots) := by
  refine MetFree.of_bodySF (plainFor_of_name pn_3) hisR ?_
  intro p e s m args below meth c s₁ Bd hml0 hP hK
  obtain ⟨rfl, hZ, hh⟩ := hP
  have hx := Bd.exec
  have hby := Bd.bytes
  have hml : c.maxLocals = 2 := hml0
  have hown : s.vm.findClass "java/lang/String" = some m.cls := findClass_of_methodNamed Bd.named
  have hnm := (name_of_methodNamed Bd.named Bd.method).1
  have X0 : Stand p l e ({ frames := 5, cells := 2, slots := 3, locals := 77 } : Room) s m #[(.ref x), (.ref a)] below meth c s₁ [] 0 0 := Stand.of_body Bd
  have e0 : s₁.heap = h0 := by rw [← hh, Bd.state]; rfl
  have N0 := Fr.nil n0
  show Goes p e below _ (s₁.setTop (entryFrame m #[(.ref x), (.ref a)] 2))
  refine Goes.on (B := s₁.setTop (mkF m 0 #[.val (.ref x), .val (.ref a)] [])) (fun t k => castTop (ef_u1 m x a) k) ?_
  refine Goes.on (B := s₁.setTop (mkF m 4 #[.val (.ref x), .val (.ref a)] [(.ref a), (.int (0 : Int32)), (.ref a), (.ref x)])) (fun _ k => XS.aloadN X0.here hx rfl (hb hby d3_0) rfl rfl  (XS.aloadN X0.here hx rfl (hb hby d3_1) rfl rfl  (XS.iconst X0.here hx rfl (hb hby d3_2) (XS.aloadN X0.here hx rfl (hb hby d3_3) rfl rfl  k)))) ?_
  obtain ⟨cl1, Ar1, -, S1, Nn1, -, -⟩ := id AC
  refine Goes.on (B := s₁.setTop (mkF m 5 #[.val (.ref x), .val (.ref a)] [(.int (1 : Int32)), (.int (0 : Int32)), (.ref a), (.ref x)])) (fun t k => X0.arraylength hx (by rw [e0]; exact Ar1.1) (State.isArrayOf_alike hZ.alike Ar1.2.1) (g := (mkF m 4 #[.val (.ref x), .val (.ref a)] [(.ref a), (.int (0 : Int32)), (.ref a), (.ref x)])) rfl rfl (hb hby d3_4) t (by rw [len_of S1 Nn1]; exact k)) ?_
  refine Goes.on (B := s₁.setTop (mkF m 6 #[.val (.ref x), .val (.ref a)] [.null, (.int (1 : Int32)), (.int (0 : Int32)), (.ref a), (.ref x)])) (fun _ k => XS.aconstNull X0.here hx rfl (hb hby d3_5) k) ?_
  obtain ⟨_, _, ⟨T2, L2, k2, n2⟩, -, X2, ⟨Lc2, hQ2, l2, y2, z2⟩, st2⟩ := X0.specialBack hx (y := (⟨"java/lang/String", "<init>", "([CIILjava/lang/Void;)V"⟩ : MethodName)) rfl hown (mvT hZ (hw _ (om 15 rfl))) (mvT hZ (hw _ (om 16 rfl))) (mvT hZ (hw _ (om 18 rfl))) (by decide) (backOf (W := 0) (rmv1 l Z a0 hw [] x a kC c0 GA GB h0 n0 Z0 SS X00 EX FC FV gx AC r0 hwd) hZ (hw _ (om 18 rfl)) (hw _ (om 10 rfl)) (by decide) (by decide)) (g := (mkF m 6 #[.val (.ref x), .val (.ref a)] [.null, (.int (1 : Int32)), (.int (0 : Int32)), (.ref a), (.ref x)])) rfl (by rw [hml]; rfl) (Steps.refl _) (a := x) (argsL := [(.ref a), (.int (0 : Int32)), (.int (1 : Int32)), .null]) (rest := []) (lenOf pd_3___CIILjava_lang_Void__V rfl) rfl (by show 2 * 0 + _ ≤ _; exact Nat.le_of_eq rfl) (hb hby d3_6) (fun _ _ => ⟨rfl, e0, (by decide : 0 + 2 ≤ _), (by decide : 0 + 3 ≤ _)⟩)
  dsimp only [Pt.U, Pt.locs, Pt.cells, Pt.slots] at X2 l2 y2 z2 st2 hQ2
  subst l2 y2 z2
  obtain ⟨rfl, Nq2, Kq2, Eq2, Cq2, t2, kt2, gt2, Fq2, Aq2⟩ := hQ2
  obtain ⟨h2, eh2⟩ : ∃ h, T2.heap = h := ⟨_, rfl⟩
  rw [eh2] at Kq2 Eq2 Cq2 Fq2 Aq2
  have f3 := X00.keep Kq2 (allS gx all0)
  have f4 := EX.keep Kq2
  have z5 : n0 ≤ h2.size := Nat.le_trans Z0 Kq2.1
  have K6 : Keep h0 h2 [x] := (Keep.refl h0 [x]).trans Kq2 (allS (Or.inl (om 0 rfl)) all0)
  have N2 := Fr.app N0 Nq2
  refine Goes.on (B := T2.setTop (mkF m 9 #[.val (.ref x), .val (.ref a)] [])) (fun t k => st2.trans k) ?_
  obtain ⟨fs, hr, hrun, hended, hW, hsame⟩ := X2.leave (v := none) (fun _ => rfl)
  exact Goes.leaf (X2.returnOut hx Bd.returns (hb hby d3_9) hr) hrun hended ⟨_, _, rfl, by show Qu1 Z x a kC c0 GA GB h0 n0 _ T2.heap _; rw [eh2]; exact ⟨rfl, N2, K6, Eq2, Cq2, t2, _, gt2, Fq2, Aq2⟩, ⟨_, rfl⟩, hW, hsame.mono (by decide) (by decide)⟩
theorem ef_nl2 (m : MethodId) (x0 : Int32) : entryFrame m #[(.int x0)] 1 = mkF m 0 #[.val (.int x0)] [] := by first | (simp [entryFrame, mkF, argsToLocals, Value.category]; done) | rfl
def Qnl2 (Z : State)   (h0 : Heap) (n0 : Nat) (v : Option Value) (h : Heap) (L : List Loc) : Prop := v = some (.int (4 : Int32)) ∧ Fr n0 L ∧ h = h0
set_option maxRecDepth 65536 in
set_option maxHeartbeats 40000000 in
theorem rmnl2 (l : Launch) (Z : State) (a0 : Array Value) (hw : ∀ d ∈ tables_1, d.before a0 Z = true) (ws : List Jvm.Cond)   (h0 : Heap) (n0 : Nat) (Z0 : n0 ≤ h0.size)  :
    MetFree l (⟨"java/lang/StringUTF16", "newBytesLength", "(I)I"⟩ : MethodName) (head1 (Jvm.Cond.code (⟨"java/lang/StringUTF16", "newBytesLength", "(I)I"⟩ : MethodName) jdk_52_method_3_code 1 (some .int) :: ws) ({ frames := 0, cells := 0, slots := 0, locals := 0 } : Room)) (fun aa U => aa = #[(.int (2 : Int32))] ∧ Z.Warmed39 U.vm ∧ U.heap = h0) (fun _ _ _ _ _ => True) (fun _ U oo U' => ∃ vv LL, oo = .returned vv ∧ Qnl2 Z  h0 n0 vv U'.heap LL ∧ FrameEnd U oo U' LL ({ frames := 0, cells := 0, slots := 0, locals := 0 } : Room).cells ({ frames := 0, cells := 0, slots := 0, locals := 0 } : Room).slots) := by
  refine MetFree.of_bodySF (plainFor_of_name pn_21) hisR ?_
  intro p e s m args below meth c s₁ Bd hml0 hP hK
  obtain ⟨rfl, hZ, hh⟩ := hP
  have hx := Bd.exec
  have hby := Bd.bytes
  have hml : c.maxLocals = 1 := hml0
  have hown : s.vm.findClass "java/lang/StringUTF16" = some m.cls := findClass_of_methodNamed Bd.named
  have hnm := (name_of_methodNamed Bd.named Bd.method).1
  have X0 : Stand p l e ({ frames := 0, cells := 0, slots := 0, locals := 0 } : Room) s m #[(.int (2 : Int32))] below meth c s₁ [] 0 0 := Stand.of_body Bd
  have e0 : s₁.heap = h0 := by rw [← hh, Bd.state]; rfl
  have N0 := Fr.nil n0
  show Goes p e below _ (s₁.setTop (entryFrame m #[(.int (2 : Int32))] 1))
  refine Goes.on (B := s₁.setTop (mkF m 0 #[.val (.int (2 : Int32))] [])) (fun t k => castTop (ef_nl2 m (2 : Int32)) k) ?_
  refine Goes.on (B := s₁.setTop (mkF m 58 #[.val (.int (2 : Int32))] [(.int (4 : Int32))])) (fun _ k => XS.iloadN X0.here hx rfl (hb hby d21_0) rfl  (XS.ifYes X0.here hx rfl (pc0 := 1) (pc' := 12) rfl (hb hby d21_1) rfl ((if0 _ _).trans (flt (by decide)).2.1) (by decide) (by decide) (XS.iloadN X0.here hx rfl (hb hby d21_12) rfl  (X0.ldcInt hx hown (mvT hZ (hw _ (om 99 rfl))) (g := (mkF m 13 #[.val (.int (2 : Int32))] [(.int (2 : Int32))])) rfl (hb hby d21_13) _ (XS.icmpYes X0.here hx rfl (pc0 := 15) (pc' := 55) rfl (hb hby d21_15) rfl (tlt (by decide)).1 (by decide) (by decide) (XS.iloadN X0.here hx rfl (hb hby d21_55) rfl  (XS.iconst X0.here hx rfl (hb hby d21_56) (XS.ishl X0.here hx rfl (hb hby d21_57) rfl k)))))))) ?_
  obtain ⟨fs, hr, hrun, hended, hW, hsame⟩ := X0.leave (v := some (.int (4 : Int32))) (fun h => by rw [Bd.returns] at h; cases h)
  exact Goes.leaf (own_retI X0 hx Bd.returns (hb hby d21_58) hr) hrun hended ⟨_, _, rfl, by show Qnl2 Z  h0 n0 _ s₁.heap _; rw [e0]; exact ⟨rfl, N0, rfl⟩, ⟨_, rfl⟩, hW, hsame.mono (by decide) (by decide)⟩
theorem ef_nf2 (m : MethodId) (x0 : Int32) : entryFrame m #[(.int x0)] 1 = mkF m 0 #[.val (.int x0)] [] := by first | (simp [entryFrame, mkF, argsToLocals, Value.category]; done) | rfl
def Qnf2 (Z : State)   (h0 : Heap) (n0 : Nat) (v : Option Value) (h : Heap) (L : List Loc) : Prop := ∃ (b : Addr) (kb : ClassId), v = some (.ref b) ∧ Fr n0 L ∧ Keep h0 h [] ∧ n0 ≤ b ∧ h0.size ≤ b ∧ Arv Z h b kb .byte (4 : Int32) [(.int (0 : Int32)), (.int (0 : Int32)), (.int (0 : Int32)), (.int (0 : Int32))] (.int (0 : Int32))
set_option maxRecDepth 65536 in
set_option maxHeartbeats 40000000 in
theorem rmnf2 (l : Launch) (Z : State) (a0 : Array Value) (hw : ∀ d ∈ tables_1, d.before a0 Z = true) (ws : List Jvm.Cond)   (h0 : Heap) (n0 : Nat) (Z0 : n0 ≤ h0.size) (X00 : Old Z n0 h0) :
    MetFree l (⟨"java/lang/StringUTF16", "newBytesFor", "(I)[B"⟩ : MethodName) (head1 (Jvm.Cond.code (⟨"java/lang/StringUTF16", "newBytesFor", "(I)[B"⟩ : MethodName) jdk_52_method_2_code 1 (some (.array .byte)) :: ws) ({ frames := 1, cells := 1, slots := 4, locals := 12 } : Room)) (fun aa U => aa = #[(.int (2 : Int32))] ∧ Z.Warmed39 U.vm ∧ U.heap = h0) (fun _ _ _ _ _ => True) (fun _ U oo U' => ∃ vv LL, oo = .returned vv ∧ Qnf2 Z  h0 n0 vv U'.heap LL ∧ FrameEnd U oo U' LL ({ frames := 1, cells := 1, slots := 4, locals := 12 } : Room).cells ({ frames := 1, cells := 1, slots := 4, locals := 12 } : Room).slots) := by
  refine MetFree.of_bodySF (plainFor_of_name pn_20) hisR ?_
  intro p e s m args below meth c s₁ Bd hml0 hP hK
  obtain ⟨rfl, hZ, hh⟩ := hP
  have hx := Bd.exec
  have hby := Bd.bytes
  have hml : c.maxLocals = 1 := hml0
  have hown : s.vm.findClass "java/lang/StringUTF16" = some m.cls := findClass_of_methodNamed Bd.named
  have hnm := (name_of_methodNamed Bd.named Bd.method).1
  have X0 : Stand p l e ({ frames := 1, cells := 1, slots := 4, locals := 12 } : Room) s m #[(.int (2 : Int32))] below meth c s₁ [] 0 0 := Stand.of_body Bd
  have e0 : s₁.heap = h0 := by rw [← hh, Bd.state]; rfl
  have N0 := Fr.nil n0
  show Goes p e below _ (s₁.setTop (entryFrame m #[(.int (2 : Int32))] 1))
  refine Goes.on (B := s₁.setTop (mkF m 0 #[.val (.int (2 : Int32))] [])) (fun t k => castTop (ef_nf2 m (2 : Int32)) k) ?_
  refine Goes.on (B := s₁.setTop (mkF m 1 #[.val (.int (2 : Int32))] [(.int (2 : Int32))])) (fun _ k => XS.iloadN X0.here hx rfl (hb hby d20_0) rfl  k) ?_
  obtain ⟨_, _, ⟨T1, L1, k1, n1⟩, -, X1, ⟨Lc1, hQ1, l1, y1, z1⟩, st1⟩ := Jvm.LawKit.callS X0 hx (y := (⟨"java/lang/StringUTF16", "newBytesLength", "(I)I"⟩ : MethodName)) hown (mvT hZ (hw _ (om 96 rfl))) (mvT hZ (hw _ (om 97 rfl))) (mvT hZ (hw _ (om 51 rfl))) (mvT hZ (hw _ (om 98 rfl))) (by decide) (backOf (W := 0) (rmnl2 l Z a0 hw []  h0 n0 Z0) hZ (hw _ (om 98 rfl)) (hw _ (om 51 rfl)) (by decide) (by decide)) (g := (mkF m 1 #[.val (.int (2 : Int32))] [(.int (2 : Int32))])) rfl (by rw [hml]; rfl) (argsL := [(.int (2 : Int32))]) (rest := []) (lenOf pd_20__I_I rfl) rfl (by show 2 * 0 + _ ≤ _; exact Nat.le_of_eq rfl) (hb hby d20_1) (fun _ _ => ⟨rfl, e0, (by decide : 0 + 0 ≤ _), (by decide : 0 + 0 ≤ _)⟩)
  dsimp only [Pt.U, Pt.locs, Pt.cells, Pt.slots] at X1 l1 y1 z1 st1 hQ1
  subst l1 y1 z1
  obtain ⟨rfl, Nq1, eh1⟩ := hQ1
  have N1 := Fr.app N0 Nq1
  refine Goes.on (B := T1.setTop (mkF m 4 #[.val (.int (2 : Int32))] [(.int (4 : Int32))])) (fun t k => st1 t k) ?_
  obtain ⟨T2, h2, k2, X2, e2, E2, A2, st2⟩ := newP X1 hx hZ (hw _ (om 23 rfl)) eh1 (g := (mkF m 4 #[.val (.int (2 : Int32))] [(.int (4 : Int32))])) rfl (hb hby d20_4) rfl (by decide) (cap := 4) (by decide) (by decide) (by decide) (by decide)
  obtain ⟨b2, g2⟩ : ∃ z, z = h0.size := ⟨_, rfl⟩
  rw [← g2] at A2 st2
  have f3 := X00.ext E2
  have z4 : n0 ≤ h2.size := Nat.le_trans Z0 E2.1
  have K5 : Keep h0 h2 [] := (Keep.refl h0 []).ext E2
  have g_b2 : n0 ≤ b2 := Nat.le_trans Z0 (Nat.le_of_eq g2.symm)
  have sz_b2 : h0.size ≤ b2 := Nat.le_trans (Keep.refl h0 []).1 (Nat.le_of_eq g2.symm)
  have V2 : Arv Z h2 b2 k2 .byte (4 : Int32) [(.int (0 : Int32)), (.int (0 : Int32)), (.int (0 : Int32)), (.int (0 : Int32))] (.int (0 : Int32)) := (Arv.new A2 (by decide)).pad (pad_rep [] (.int (0 : Int32)) 4)
  refine Goes.on (B := T2.setTop (mkF m 6 #[.val (.int (2 : Int32))] [(.ref b2)])) (fun t k => st2 t k) ?_
  obtain ⟨fs, hr, hrun, hended, hW, hsame⟩ := X2.leave (v := some (.ref b2)) (fun h => by rw [Bd.returns] at h; cases h)
  exact Goes.leaf (own_retR X2 hx Bd.returns rfl rfl (hb hby d20_6) hr) hrun hended ⟨_, _, rfl, by show Qnf2 Z  h0 n0 _ T2.heap _; rw [e2]; exact ⟨b2, _, rfl, N1, K5, g_b2, sz_b2, V2⟩, ⟨_, rfl⟩, hW, hsame.mono (by decide) (by decide)⟩
theorem ef_tb2 (m : MethodId) (x0 : Addr) (x1 : Int32) (x2 : Int32) : entryFrame m #[(.ref x0), (.int x1), (.int x2)] 5 = mkF m 0 #[.val (.ref x0), .val (.int x1), .val (.int x2), .unset, .unset] [] := by first | (simp [entryFrame, mkF, argsToLocals, Value.category]; done) | rfl
def Qtb2 (Z : State) (a : Addr) (kC : ClassId) (c0 c1 : Int32) (GA : Int32) (GB : Value) (h0 : Heap) (n0 : Nat) (v : Option Value) (h : Heap) (L : List Loc) : Prop := ∃ (b : Addr) (kb : ClassId), v = some (.ref b) ∧ Fr n0 L ∧ Keep h0 h [] ∧ n0 ≤ b ∧ h0.size ≤ b ∧ Arv Z h b kb .byte (4 : Int32) [(.int (bA c0)), (.int (bB c0)), (.int (bA c1)), (.int (bB c1))] (.int (0 : Int32))
set_option maxRecDepth 65536 in
set_option maxHeartbeats 40000000 in
theorem rmtb2 (l : Launch) (Z : State) (a0 : Array Value) (hw : ∀ d ∈ tables_1, d.before a0 Z = true) (ws : List Jvm.Cond) (a : Addr) (kC : ClassId) (c0 c1 : Int32) (GA : Int32) (GB : Value) (h0 : Heap) (n0 : Nat) (Z0 : n0 ≤ h0.size) (SS : own_St Z GA GB) (X00 : Old Z n0 h0) (AC : Arv Z h0 a kC .char (2 : Int32) [(.int c0), (.int c1)] (.int (0 : Int32))) :
    MetFree l (⟨"java/lang/StringUTF16", "toBytes", "([CII)[B"⟩ : MethodName) (head1 (Jvm.Cond.code (⟨"java/lang/StringUTF16", "toBytes", "([CII)[B"⟩ : MethodName) jdk_52_method_14_code 5 (some (.array .byte)) :: ws) ({ frames := 2, cells := 1, slots := 4, locals := 26 } : Room)) (fun aa U => aa = #[(.ref a), (.int (0 : Int32)), (.int (2 : Int32))] ∧ Z.Warmed39 U.vm ∧ U.heap = h0) (fun _ _ _ _ _ => True) (fun _ U oo U' => ∃ vv LL, oo = .returned vv ∧ Qtb2 Z a kC c0 c1 GA GB h0 n0 vv U'.heap LL ∧ FrameEnd U oo U' LL ({ frames := 2, cells := 1, slots := 4, locals := 26 } : Room).cells ({ frames := 2, cells := 1, slots := 4, locals := 26 } : Room).slots) := by
  refine MetFree.of_bodySF (plainFor_of_name pn_19) hisR ?_
  intro p e s m args below meth c s₁ Bd hml0 hP hK
  obtain ⟨rfl, hZ, hh⟩ := hP
  have hx := Bd.exec
  have hby := Bd.bytes
  have hml : c.maxLocals = 5 := hml0
  have hown : s.vm.findClass "java/lang/StringUTF16" = some m.cls := findClass_of_methodNamed Bd.named
  have hnm := (name_of_methodNamed Bd.named Bd.method).1
  have X0 : Stand p l e ({ frames := 2, cells := 1, slots := 4, locals := 26 } : Room) s m #[(.ref a), (.int (0 : Int32)), (.int (2 : Int32))] below meth c s₁ [] 0 0 := Stand.of_body Bd
  have e0 : s₁.heap = h0 := by rw [← hh, Bd.state]; rfl
  have N0 := Fr.nil n0
  show Goes p e below _ (s₁.setTop (entryFrame m #[(.ref a), (.int (0 : Int32)), (.int (2 : Int32))] 5))
  refine Goes.on (B := s₁.setTop (mkF m 0 #[.val (.ref a), .val (.int (0 : Int32)), .val (.int (2 : Int32)), .unset, .unset] [])) (fun t k => castTop (ef_tb2 m a (0 : Int32) (2 : Int32)) k) ?_
  refine Goes.on (B := s₁.setTop (mkF m 1 #[.val (.ref a), .val (.int (0 : Int32)), .val (.int (2 : Int32)), .unset, .unset] [(.int (2 : Int32))])) (fun _ k => XS.iloadN X0.here hx rfl (hb hby d19_0) rfl  k) ?_
  obtain ⟨_, _, ⟨T1, L1, k1, n1⟩, -, X1, ⟨Lc1, hQ1, l1, y1, z1⟩, st1⟩ := Jvm.LawKit.callS X0 hx (y := (⟨"java/lang/StringUTF16", "newBytesFor", "(I)[B"⟩ : MethodName)) hown (mvT hZ (hw _ (om 93 rfl))) (mvT hZ (hw _ (om 94 rfl))) (mvT hZ (hw _ (om 51 rfl))) (mvT hZ (hw _ (om 95 rfl))) (by decide) (backOf (W := 0) (rmnf2 l Z a0 hw []  h0 n0 Z0 X00) hZ (hw _ (om 95 rfl)) (hw _ (om 51 rfl)) (by decide) (by decide)) (g := (mkF m 1 #[.val (.ref a), .val (.int (0 : Int32)), .val (.int (2 : Int32)), .unset, .unset] [(.int (2 : Int32))])) rfl (by rw [hml]; rfl) (argsL := [(.int (2 : Int32))]) (rest := []) (lenOf pd_19__I__B rfl) rfl (by show 2 * 0 + _ ≤ _; exact Nat.le_of_eq rfl) (hb hby d19_1) (fun _ _ => ⟨rfl, e0, (by decide : 0 + 1 ≤ _), (by decide : 0 + 4 ≤ _)⟩)
  dsimp only [Pt.U, Pt.locs, Pt.cells, Pt.slots] at X1 l1 y1 z1 st1 hQ1
  subst l1 y1 z1
  obtain ⟨b1, kb1, rfl, Nq1, Kq1, g_b1, sq_b1, Vq1⟩ := hQ1
  obtain ⟨h1, eh1⟩ : ∃ h, T1.heap = h := ⟨_, rfl⟩
  rw [eh1] at Kq1 Vq1
  have ne_a_b1 : a ≠ b1 := Nat.ne_of_lt (Nat.lt_of_lt_of_le AC.lt sq_b1)
  have f2 := X00.keep Kq1 (all0)
  have f3 := AC.keep Kq1 nin0
  have z4 : n0 ≤ h1.size := Nat.le_trans Z0 Kq1.1
  have K5 : Keep h0 h1 [] := (Keep.refl h0 []).trans Kq1 all0
  have sz_b1 : h0.size ≤ b1 := Nat.le_trans (Keep.refl h0 []).1 sq_b1
  have N1 := Fr.app N0 Nq1
  refine Goes.on (B := T1.setTop (mkF m 4 #[.val (.ref a), .val (.int (0 : Int32)), .val (.int (2 : Int32)), .unset, .unset] [(.ref b1)])) (fun t k => st1 t k) ?_
  refine Goes.on (B := T1.setTop (mkF m 17 #[.val (.ref a), .val (.int (0 : Int32)), .val (.int (2 : Int32)), .val (.ref b1), .val (.int (0 : Int32))] [(.int (0 : Int32)), (.ref b1)])) (fun _ k => XS.astoreN X1.here hx rfl (hb hby d19_4) rfl rfl (l' := #[.val (.ref a), .val (.int (0 : Int32)), .val (.int (2 : Int32)), .val (.ref b1), .unset]) rfl (XS.iconst X1.here hx rfl (hb hby d19_5) (XS.istore X1.here hx rfl (hb hby d19_6) rfl (l' := #[.val (.ref a), .val (.int (0 : Int32)), .val (.int (2 : Int32)), .val (.ref b1), .val (.int (0 : Int32))]) rfl (XS.iload X1.here hx rfl (hb hby d19_8) rfl  (XS.iloadN X1.here hx rfl (hb hby d19_10) rfl  (XS.icmpNo X1.here hx rfl (hb hby d19_11) rfl (tlt (by decide)).2.1 (XS.aloadN X1.here hx rfl (hb hby d19_14) rfl rfl  (XS.iload X1.here hx rfl (hb hby d19_15) rfl  k)))))))) ?_
  refine Goes.on (B := T1.setTop (mkF m 19 #[.val (.ref a), .val (.int (0 : Int32)), .val (.int (2 : Int32)), .val (.ref b1), .val (.int (0 : Int32))] [(.int (0 : Int32)), (.ref a), (.int (0 : Int32)), (.ref b1)])) (fun _ k => XS.aloadN X1.here hx rfl (hb hby d19_17) rfl rfl  (XS.iloadN X1.here hx rfl (hb hby d19_18) rfl  k)) ?_
  obtain ⟨cl6, Ar6, q6, S6, Nn6, H6, G6⟩ := id f3
  have hin6 : ¬ ((0 : Int32) < 0 ∨ cl6.slots.size ≤ ((0 : Int32)).toNatClampNeg) := inb_of S6 ⟨by decide, by decide⟩
  refine Goes.on (B := T1.setTop (mkF m 20 #[.val (.ref a), .val (.int (0 : Int32)), .val (.int (2 : Int32)), .val (.ref b1), .val (.int (0 : Int32))] [(.int c0), (.int (0 : Int32)), (.ref b1)])) (fun _ k => X1.caload hx (j := (0 : Int32)) (v := (.int c0)) (by rw [eh1]; exact Ar6.1) (State.isArrayOf_alike hZ.alike Ar6.2.1) Ar6.2.2 hin6 (H6.at hin6 rfl) (g := (mkF m 19 #[.val (.ref a), .val (.int (0 : Int32)), .val (.int (2 : Int32)), .val (.ref b1), .val (.int (0 : Int32))] [(.int (0 : Int32)), (.ref a), (.int (0 : Int32)), (.ref b1)])) rfl rfl (hb hby d19_19) _ k) ?_
  obtain ⟨_, _, ⟨T7, L7, k7, n7⟩, -, X7, ⟨Lc7, hQ7, l7, y7, z7⟩, st7⟩ := Jvm.LawKit.callS X1 hx (y := (⟨"java/lang/StringUTF16", "putChar", "([BII)V"⟩ : MethodName)) hown (mvT hZ (hw _ (om 100 rfl))) (mvT hZ (hw _ (om 101 rfl))) (mvT hZ (hw _ (om 51 rfl))) (mvT hZ (hw _ (om 102 rfl))) (by decide) (backOf (W := 0) (rmpc l Z a0 hw [] b1 (0 : Int32) c0 kb1 (4 : Int32) [(.int (0 : Int32)), (.int (0 : Int32)), (.int (0 : Int32)), (.int (0 : Int32))] GA GB h1 n0 z4 SS f2 Vq1 g_b1 ⟨by decide, by decide⟩ ⟨by decide, by decide⟩ (by first | decide | (simp only [List.length_cons, List.length_nil]; decide)) (by first | decide | (simp only [List.length_cons, List.length_nil]; decide))) hZ (hw _ (om 102 rfl)) (hw _ (om 51 rfl)) (by decide) (by decide)) (g := (mkF m 20 #[.val (.ref a), .val (.int (0 : Int32)), .val (.int (2 : Int32)), .val (.ref b1), .val (.int (0 : Int32))] [(.int c0), (.int (0 : Int32)), (.ref b1)])) rfl (by rw [hml]; rfl) (argsL := [(.ref b1), (.int (0 : Int32)), (.int c0)]) (rest := []) (lenOf pd_19___BII_V rfl) rfl (by show 2 * 0 + _ ≤ _; exact Nat.le_of_eq rfl) (hb hby d19_20) (fun _ _ => ⟨rfl, eh1, (by decide : 1 + 0 ≤ _), (by decide : 4 + 0 ≤ _)⟩)
  dsimp only [Pt.U, Pt.locs, Pt.cells, Pt.slots] at X7 l7 y7 z7 st7 hQ7
  subst l7 y7 z7
  obtain ⟨rfl, Nq7, Kq7, Vp7⟩ := hQ7
  obtain ⟨h7, eh7⟩ : ∃ h, T7.heap = h := ⟨_, rfl⟩
  rw [eh7] at Kq7 Vp7
  have f8 := f2.keep Kq7 (allS g_b1 all0)
  have f9 := f3.keep Kq7 (ninS ne_a_b1 nin0)
  have z10 : n0 ≤ h7.size := Nat.le_trans z4 Kq7.1
  have K11 : Keep h0 h7 [] := K5.trans Kq7 (allS (Or.inr sz_b1) all0)
  have Vq7 : Arv Z h7 b1 kb1 .byte (4 : Int32) [(.int (bA c0)), (.int (bB c0)), (.int (0 : Int32)), (.int (0 : Int32))] (.int (0 : Int32)) := Vp7
  have N7 := Fr.app N1 Nq7
  refine Goes.on (B := T7.setTop (mkF m 23 #[.val (.ref a), .val (.int (0 : Int32)), .val (.int (2 : Int32)), .val (.ref b1), .val (.int (0 : Int32))] [])) (fun t k => st7 t k) ?_
  refine Goes.on (B := T7.setTop (mkF m 17 #[.val (.ref a), .val (.int (1 : Int32)), .val (.int (2 : Int32)), .val (.ref b1), .val (.int (1 : Int32))] [(.int (1 : Int32)), (.ref b1)])) (fun _ k => XS.iinc X7.here hx rfl (hb hby d19_23) rfl (l' := #[.val (.ref a), .val (.int (1 : Int32)), .val (.int (2 : Int32)), .val (.ref b1), .val (.int (0 : Int32))]) rfl (XS.iinc X7.here hx rfl (hb hby d19_26) rfl (l' := #[.val (.ref a), .val (.int (1 : Int32)), .val (.int (2 : Int32)), .val (.ref b1), .val (.int (1 : Int32))]) rfl (XS.goto X7.here hx rfl (pc0 := 29) (pc' := 8) rfl (hb hby d19_29) (by decide) (by decide) (XS.iload X7.here hx rfl (hb hby d19_8) rfl  (XS.iloadN X7.here hx rfl (hb hby d19_10) rfl  (XS.icmpNo X7.here hx rfl (hb hby d19_11) rfl (tlt (by decide)).2.1 (XS.aloadN X7.here hx rfl (hb hby d19_14) rfl rfl  (XS.iload X7.here hx rfl (hb hby d19_15) rfl  k)))))))) ?_
  refine Goes.on (B := T7.setTop (mkF m 19 #[.val (.ref a), .val (.int (1 : Int32)), .val (.int (2 : Int32)), .val (.ref b1), .val (.int (1 : Int32))] [(.int (1 : Int32)), (.ref a), (.int (1 : Int32)), (.ref b1)])) (fun _ k => XS.aloadN X7.here hx rfl (hb hby d19_17) rfl rfl  (XS.iloadN X7.here hx rfl (hb hby d19_18) rfl  k)) ?_
  obtain ⟨cl12, Ar12, q12, S12, Nn12, H12, G12⟩ := id f9
  have hin12 : ¬ ((1 : Int32) < 0 ∨ cl12.slots.size ≤ ((1 : Int32)).toNatClampNeg) := inb_of S12 ⟨by decide, by decide⟩
  refine Goes.on (B := T7.setTop (mkF m 20 #[.val (.ref a), .val (.int (1 : Int32)), .val (.int (2 : Int32)), .val (.ref b1), .val (.int (1 : Int32))] [(.int c1), (.int (1 : Int32)), (.ref b1)])) (fun _ k => X7.caload hx (j := (1 : Int32)) (v := (.int c1)) (by rw [eh7]; exact Ar12.1) (State.isArrayOf_alike hZ.alike Ar12.2.1) Ar12.2.2 hin12 (H12.at hin12 rfl) (g := (mkF m 19 #[.val (.ref a), .val (.int (1 : Int32)), .val (.int (2 : Int32)), .val (.ref b1), .val (.int (1 : Int32))] [(.int (1 : Int32)), (.ref a), (.int (1 : Int32)), (.ref b1)])) rfl rfl (hb hby d19_19) _ k) ?_
  obtain ⟨_, _, ⟨T13, L13, k13, n13⟩, -, X13, ⟨Lc13, hQ13, l13, y13, z13⟩, st13⟩ := Jvm.LawKit.callS X7 hx (y := (⟨"java/lang/StringUTF16", "putChar", "([BII)V"⟩ : MethodName)) hown (mvT hZ (hw _ (om 100 rfl))) (mvT hZ (hw _ (om 101 rfl))) (mvT hZ (hw _ (om 51 rfl))) (mvT hZ (hw _ (om 102 rfl))) (by decide) (backOf (W := 0) (rmpc l Z a0 hw [] b1 (1 : Int32) c1 kb1 (4 : Int32) [(.int (bA c0)), (.int (bB c0)), (.int (0 : Int32)), (.int (0 : Int32))] GA GB h7 n0 z10 SS f8 Vq7 g_b1 ⟨by decide, by decide⟩ ⟨by decide, by decide⟩ (by first | decide | (simp only [List.length_cons, List.length_nil]; decide)) (by first | decide | (simp only [List.length_cons, List.length_nil]; decide))) hZ (hw _ (om 102 rfl)) (hw _ (om 51 rfl)) (by decide) (by decide)) (g := (mkF m 20 #[.val (.ref a), .val (.int (1 : Int32)), .val (.int (2 : Int32)), .val (.ref b1), .val (.int (1 : Int32))] [(.int c1), (.int (1 : Int32)), (.ref b1)])) rfl (by rw [hml]; rfl) (argsL := [(.ref b1), (.int (1 : Int32)), (.int c1)]) (rest := []) (lenOf pd_19___BII_V rfl) rfl (by show 2 * 0 + _ ≤ _; exact Nat.le_of_eq rfl) (hb hby d19_20) (fun _ _ => ⟨rfl, eh7, (by decide : 1 + 0 ≤ _), (by decide : 4 + 0 ≤ _)⟩)
  dsimp only [Pt.U, Pt.locs, Pt.cells, Pt.slots] at X13 l13 y13 z13 st13 hQ13
  subst l13 y13 z13
  obtain ⟨rfl, Nq13, Kq13, Vp13⟩ := hQ13
  obtain ⟨h13, eh13⟩ : ∃ h, T13.heap = h := ⟨_, rfl⟩
  rw [eh13] at Kq13 Vp13
  have f14 := f8.keep Kq13 (allS g_b1 all0)
  have f15 := f9.keep Kq13 (ninS ne_a_b1 nin0)
  have z16 : n0 ≤ h13.size := Nat.le_trans z10 Kq13.1
  have K17 : Keep h0 h13 [] := K11.trans Kq13 (allS (Or.inr sz_b1) all0)
  have Vq13 : Arv Z h13 b1 kb1 .byte (4 : Int32) [(.int (bA c0)), (.int (bB c0)), (.int (bA c1)), (.int (bB c1))] (.int (0 : Int32)) := Vp13
  have N13 := Fr.app N7 Nq13
  refine Goes.on (B := T13.setTop (mkF m 23 #[.val (.ref a), .val (.int (1 : Int32)), .val (.int (2 : Int32)), .val (.ref b1), .val (.int (1 : Int32))] [])) (fun t k => st13 t k) ?_
  refine Goes.on (B := T13.setTop (mkF m 33 #[.val (.ref a), .val (.int (2 : Int32)), .val (.int (2 : Int32)), .val (.ref b1), .val (.int (2 : Int32))] [(.ref b1)])) (fun _ k => XS.iinc X13.here hx rfl (hb hby d19_23) rfl (l' := #[.val (.ref a), .val (.int (2 : Int32)), .val (.int (2 : Int32)), .val (.ref b1), .val (.int (1 : Int32))]) rfl (XS.iinc X13.here hx rfl (hb hby d19_26) rfl (l' := #[.val (.ref a), .val (.int (2 : Int32)), .val (.int (2 : Int32)), .val (.ref b1), .val (.int (2 : Int32))]) rfl (XS.goto X13.here hx rfl (pc0 := 29) (pc' := 8) rfl (hb hby d19_29) (by decide) (by decide) (XS.iload X13.here hx rfl (hb hby d19_8) rfl  (XS.iloadN X13.here hx rfl (hb hby d19_10) rfl  (XS.icmpYes X13.here hx rfl (pc0 := 11) (pc' := 32) rfl (hb hby d19_11) rfl (flt (by decide)).2.1 (by decide) (by decide) (XS.aloadN X13.here hx rfl (hb hby d19_32) rfl rfl  k))))))) ?_
  obtain ⟨fs, hr, hrun, hended, hW, hsame⟩ := X13.leave (v := some (.ref b1)) (fun h => by rw [Bd.returns] at h; cases h)
  exact Goes.leaf (own_retR X13 hx Bd.returns rfl rfl (hb hby d19_33) hr) hrun hended ⟨_, _, rfl, by show Qtb2 Z a kC c0 c1 GA GB h0 n0 _ T13.heap _; rw [eh13]; exact ⟨b1, _, rfl, N13, K17, g_b1, sz_b1, Vq13⟩, ⟨_, rfl⟩, hW, hsame.mono (by decide) (by decide)⟩
theorem d10_26 : decode jdk_52_method_21_code 26 = .ok (.aload_n 2, 1) := by decide +kernel
theorem d10_27 : decode jdk_52_method_21_code 27 = .ok (.iload_n 3, 1) := by decide +kernel
theorem d10_28 : decode jdk_52_method_21_code 28 = .ok (.iload 6, 2) := by decide +kernel
theorem d10_30 : decode jdk_52_method_21_code 30 = .ok (.i2b, 1) := by decide +kernel
theorem d10_31 : decode jdk_52_method_21_code 31 = .ok (.bastore, 1) := by decide +kernel
theorem d10_32 : decode jdk_52_method_21_code 32 = .ok (.iinc 1 1, 3) := by decide +kernel
theorem d10_35 : decode jdk_52_method_21_code 35 = .ok (.iinc 3 1, 3) := by decide +kernel
theorem d10_38 : decode jdk_52_method_21_code 38 = .ok (.iinc 5 1, 3) := by decide +kernel
theorem d10_41 : decode jdk_52_method_21_code 41 = .ok (.goto (-38), 3) := by decide +kernel
theorem ef_cI2 (m : MethodId) (x0 : Addr) (x1 : Int32) (x2 : Addr) (x3 : Int32) (x4 : Int32) : entryFrame m #[(.ref x0), (.int x1), (.ref x2), (.int x3), (.int x4)] 7 = mkF m 0 #[.val (.ref x0), .val (.int x1), .val (.ref x2), .val (.int x3), .val (.int x4), .unset, .unset] [] := by first | (simp [entryFrame, mkF, argsToLocals, Value.category]; done) | rfl
def QcI2 (Z : State) (a : Addr) (b : Addr) (kC kB : ClassId) (c0 c1 : Int32) (h0 : Heap) (n0 : Nat) (v : Option Value) (h : Heap) (L : List Loc) : Prop := ∃ (ii y : Int32), v = some (.int ii) ∧ Fr n0 L ∧ Keep h0 h [b] ∧ ¬ ii = (2 : Int32) ∧ (255 : Int32) < y ∧ own_rg y ∧ (¬ (ii <<< ((1 : Int32) &&& 31)) < 0 ∧ (ii <<< ((1 : Int32) &&& 31)) < (4 : Int32)) ∧ (¬ ((ii <<< ((1 : Int32) &&& 31)) + (1 : Int32)) < 0 ∧ ((ii <<< ((1 : Int32) &&& 31)) + (1 : Int32)) < (4 : Int32)) ∧ ([(.int (bA c0)), (.int (bB c0)), (.int (bA c1)), (.int (bB c1))] : List Value).getD ((ii <<< ((1 : Int32) &&& 31))).toNatClampNeg (.int (0 : Int32)) = (.int (bA y)) ∧ ([(.int (bA c0)), (.int (bB c0)), (.int (bA c1)), (.int (bB c1))] : List Value).getD (((ii <<< ((1 : Int32) &&& 31)) + (1 : Int32))).toNatClampNeg (.int (0 : Int32)) = (.int (bB y))
set_option maxRecDepth 65536 in
set_option maxHeartbeats 40000000 in
theorem rmcI2 (l : Launch) (Z : State) (a0 : Array Value) (hw : ∀ d ∈ tables_1, d.before a0 Z = true) (ws : List Jvm.Cond) (a : Addr) (b : Addr) (kC kB : ClassId) (c0 c1 : Int32) (h0 : Heap) (n0 : Nat) (Z0 : n0 ≤ h0.size) (X00 : Old Z n0 h0) (AC : Arv Z h0 a kC .char (2 : Int32) [(.int c0), (.int c1)] (.int (0 : Int32))) (AB : Arv Z h0 b kB .byte (2 : Int32) [(.int (0 : Int32)), (.int (0 : Int32))] (.int (0 : Int32))) (gb : n0 ≤ b) (nab : a ≠ b) (r0 : own_rg c0) (r1 : own_rg c1) (hwd : ¬ (¬ (255 : Int32) < c0 ∧ ¬ (255 : Int32) < c1)) :
    MetFree l (⟨"java/lang/StringUTF16", "compress", "([CI[BII)I"⟩ : MethodName) (head1 (Jvm.Cond.code (⟨"java/lang/StringUTF16", "compress", "([CI[BII)I"⟩ : MethodName) jdk_52_method_21_code 7 (some .int) :: ws) ({ frames := 0, cells := 0, slots := 0, locals := 0 } : Room)) (fun aa U => aa = #[(.ref a), (.int (0 : Int32)), (.ref b), (.int (0 : Int32)), (.int (2 : Int32))] ∧ Z.Warmed39 U.vm ∧ U.heap = h0) (fun _ _ _ _ _ => True) (fun _ U oo U' => ∃ vv LL, oo = .returned vv ∧ QcI2 Z a b kC kB c0 c1 h0 n0 vv U'.heap LL ∧ FrameEnd U oo U' LL ({ frames := 0, cells := 0, slots := 0, locals := 0 } : Room).cells ({ frames := 0, cells := 0, slots := 0, locals := 0 } : Room).slots) := by
  refine MetFree.of_bodySF (plainFor_of_name pn_10) hisR ?_
  intro p e s m args below meth c s₁ Bd hml0 hP hK
  obtain ⟨rfl, hZ, hh⟩ := hP
  have hx := Bd.exec
  have hby := Bd.bytes
  have hml : c.maxLocals = 7 := hml0
  have hown : s.vm.findClass "java/lang/StringUTF16" = some m.cls := findClass_of_methodNamed Bd.named
  have hnm := (name_of_methodNamed Bd.named Bd.method).1
  have X0 : Stand p l e ({ frames := 0, cells := 0, slots := 0, locals := 0 } : Room) s m #[(.ref a), (.int (0 : Int32)), (.ref b), (.int (0 : Int32)), (.int (2 : Int32))] below meth c s₁ [] 0 0 := Stand.of_body Bd
  have e0 : s₁.heap = h0 := by rw [← hh, Bd.state]; rfl
  have N0 := Fr.nil n0
  show Goes p e below _ (s₁.setTop (entryFrame m #[(.ref a), (.int (0 : Int32)), (.ref b), (.int (0 : Int32)), (.int (2 : Int32))] 7))
  refine Goes.on (B := s₁.setTop (mkF m 0 #[.val (.ref a), .val (.int (0 : Int32)), .val (.ref b), .val (.int (0 : Int32)), .val (.int (2 : Int32)), .unset, .unset] [])) (fun t k => castTop (ef_cI2 m a (0 : Int32) b (0 : Int32) (2 : Int32)) k) ?_
  refine Goes.on (B := s₁.setTop (mkF m 12 #[.val (.ref a), .val (.int (0 : Int32)), .val (.ref b), .val (.int (0 : Int32)), .val (.int (2 : Int32)), .val (.int (0 : Int32)), .unset] [(.int (0 : Int32)), (.ref a)])) (fun _ k => XS.iconst X0.here hx rfl (hb hby d10_0) (XS.istore X0.here hx rfl (hb hby d10_1) rfl (l' := #[.val (.ref a), .val (.int (0 : Int32)), .val (.ref b), .val (.int (0 : Int32)), .val (.int (2 : Int32)), .val (.int (0 : Int32)), .unset]) rfl (XS.iload X0.here hx rfl (hb hby d10_3) rfl  (XS.iload X0.here hx rfl (hb hby d10_5) rfl  (XS.icmpNo X0.here hx rfl (hb hby d10_7) rfl (tlt (by decide)).2.1 (XS.aloadN X0.here hx rfl (hb hby d10_10) rfl rfl  (XS.iloadN X0.here hx rfl (hb hby d10_11) rfl  k))))))) ?_
  obtain ⟨cl1, Ar1, q1, S1, Nn1, H1, G1⟩ := id AC
  have hin1 : ¬ ((0 : Int32) < 0 ∨ cl1.slots.size ≤ ((0 : Int32)).toNatClampNeg) := inb_of S1 ⟨by decide, by decide⟩
  refine Goes.on (B := s₁.setTop (mkF m 20 #[.val (.ref a), .val (.int (0 : Int32)), .val (.ref b), .val (.int (0 : Int32)), .val (.int (2 : Int32)), .val (.int (0 : Int32)), .val (.int c0)] [(.int (255 : Int32)), (.int c0)])) (fun _ k => X0.caload hx (j := (0 : Int32)) (v := (.int c0)) (by rw [e0]; exact Ar1.1) (State.isArrayOf_alike hZ.alike Ar1.2.1) Ar1.2.2 hin1 (H1.at hin1 rfl) (g := (mkF m 12 #[.val (.ref a), .val (.int (0 : Int32)), .val (.ref b), .val (.int (0 : Int32)), .val (.int (2 : Int32)), .val (.int (0 : Int32)), .unset] [(.int (0 : Int32)), (.ref a)])) rfl rfl (hb hby d10_12) _ (XS.istore X0.here hx rfl (hb hby d10_13) rfl (l' := #[.val (.ref a), .val (.int (0 : Int32)), .val (.ref b), .val (.int (0 : Int32)), .val (.int (2 : Int32)), .val (.int (0 : Int32)), .val (.int c0)]) rfl (XS.iload X0.here hx rfl (hb hby d10_15) rfl  (XS.sipush X0.here hx rfl (hb hby d10_17) k)))) ?_
  by_cases g0 : (255 : Int32) < c0
  · refine Goes.on (B := s₁.setTop (mkF m 25 #[.val (.ref a), .val (.int (0 : Int32)), .val (.ref b), .val (.int (0 : Int32)), .val (.int (2 : Int32)), .val (.int (0 : Int32)), .val (.int c0)] [(.int (0 : Int32))])) (fun _ k => XS.icmpNo X0.here hx rfl (hb hby d10_20) rfl (tlt g0).2.2.2 (XS.iload X0.here hx rfl (hb hby d10_23) rfl  k)) ?_
    obtain ⟨fs, hr, hrun, hended, hW, hsame⟩ := X0.leave (v := some (.int (0 : Int32))) (fun h => by rw [Bd.returns] at h; cases h)
    exact Goes.leaf (own_retI X0 hx Bd.returns (hb hby d10_25) hr) hrun hended ⟨_, _, rfl, by show QcI2 Z a b kC kB c0 c1 h0 n0 _ s₁.heap _; rw [e0]; exact ⟨(0 : Int32), c0, rfl, N0, (Keep.refl h0 [b]), by decide, g0, r0, ⟨by decide, by decide⟩, ⟨by decide, by decide⟩, rfl, rfl⟩, ⟨_, rfl⟩, hW, hsame.mono (by decide) (by decide)⟩
  · refine Goes.on (B := s₁.setTop (mkF m 31 #[.val (.ref a), .val (.int (0 : Int32)), .val (.ref b), .val (.int (0 : Int32)), .val (.int (2 : Int32)), .val (.int (0 : Int32)), .val (.int c0)] [(.int (c0.toInt8.toInt32)), (.int (0 : Int32)), (.ref b)])) (fun _ k => XS.icmpYes X0.here hx rfl (pc0 := 20) (pc' := 26) rfl (hb hby d10_20) rfl (flt g0).2.2.2 (by decide) (by decide) (XS.aloadN X0.here hx rfl (hb hby d10_26) rfl rfl  (XS.iloadN X0.here hx rfl (hb hby d10_27) rfl  (XS.iload X0.here hx rfl (hb hby d10_28) rfl  (XS.i2b X0.here hx rfl (hb hby d10_30) rfl k))))) ?_
    obtain ⟨cl2, Ar2, q2, S2, Nn2, H2, G2⟩ := id AB
    have hin2 : ¬ ((0 : Int32) < 0 ∨ cl2.slots.size ≤ ((0 : Int32)).toNatClampNeg) := inb_of S2 ⟨by decide, by decide⟩
    obtain ⟨T3, h3, X3, e3, W3, st3⟩ := stB X0 hx hZ e0 Ar2 (j := (0 : Int32)) hin2 (g := (mkF m 31 #[.val (.ref a), .val (.int (0 : Int32)), .val (.ref b), .val (.int (0 : Int32)), .val (.int (2 : Int32)), .val (.int (0 : Int32)), .val (.int c0)] [(.int (c0.toInt8.toInt32)), (.int (0 : Int32)), (.ref b)])) rfl rfl (hb hby d10_31)
    have V3 : Arv Z h3 b kB .byte (2 : Int32) [(.int (nar .byte (c0.toInt8.toInt32))), (.int (0 : Int32))] (.int (0 : Int32)) := Arv.set Ar2 q2 S2 Nn2 H2 G2 (fits_nar_byte _) W3 0 rfl (Nat.le_of_ble_eq_true rfl)
    have f4 := X00.wr W3 gb
    have f5 := AC.other W3 nab
    have z6 : n0 ≤ h3.size := Nat.le_trans Z0 (Keep.of_wr W3).1
    have K7 : Keep h0 h3 [b] := (Keep.refl h0 [b]).wr W3 (Or.inl (om 0 rfl))
    have N3 := Fr.snoc X3 N0 gb
    refine Goes.on (B := T3.setTop (mkF m 32 #[.val (.ref a), .val (.int (0 : Int32)), .val (.ref b), .val (.int (0 : Int32)), .val (.int (2 : Int32)), .val (.int (0 : Int32)), .val (.int c0)] [])) (fun t k => st3 t k) ?_
    refine Goes.on (B := T3.setTop (mkF m 11 #[.val (.ref a), .val (.int (1 : Int32)), .val (.ref b), .val (.int (1 : Int32)), .val (.int (2 : Int32)), .val (.int (1 : Int32)), .val (.int c0)] [(.ref a)])) (fun _ k => XS.iinc X3.here hx rfl (hb hby d10_32) rfl (l' := #[.val (.ref a), .val (.int (1 : Int32)), .val (.ref b), .val (.int (0 : Int32)), .val (.int (2 : Int32)), .val (.int (0 : Int32)), .val (.int c0)]) rfl (XS.iinc X3.here hx rfl (hb hby d10_35) rfl (l' := #[.val (.ref a), .val (.int (1 : Int32)), .val (.ref b), .val (.int (1 : Int32)), .val (.int (2 : Int32)), .val (.int (0 : Int32)), .val (.int c0)]) rfl (XS.iinc X3.here hx rfl (hb hby d10_38) rfl (l' := #[.val (.ref a), .val (.int (1 : Int32)), .val (.ref b), .val (.int (1 : Int32)), .val (.int (2 : Int32)), .val (.int (1 : Int32)), .val (.int c0)]) rfl (XS.goto X3.here hx rfl (pc0 := 41) (pc' := 3) rfl (hb hby d10_41) (by decide) (by decide) (XS.iload X3.here hx rfl (hb hby d10_3) rfl  (XS.iload X3.here hx rfl (hb hby d10_5) rfl  (XS.icmpNo X3.here hx rfl (hb hby d10_7) rfl (tlt (by decide)).2.1 (XS.aloadN X3.here hx rfl (hb hby d10_10) rfl rfl  k)))))))) ?_
    refine Goes.on (B := T3.setTop (mkF m 12 #[.val (.ref a), .val (.int (1 : Int32)), .val (.ref b), .val (.int (1 : Int32)), .val (.int (2 : Int32)), .val (.int (1 : Int32)), .val (.int c0)] [(.int (1 : Int32)), (.ref a)])) (fun _ k => XS.iloadN X3.here hx rfl (hb hby d10_11) rfl  k) ?_
    obtain ⟨cl8, Ar8, q8, S8, Nn8, H8, G8⟩ := id f5
    have hin8 : ¬ ((1 : Int32) < 0 ∨ cl8.slots.size ≤ ((1 : Int32)).toNatClampNeg) := inb_of S8 ⟨by decide, by decide⟩
    refine Goes.on (B := T3.setTop (mkF m 20 #[.val (.ref a), .val (.int (1 : Int32)), .val (.ref b), .val (.int (1 : Int32)), .val (.int (2 : Int32)), .val (.int (1 : Int32)), .val (.int c1)] [(.int (255 : Int32)), (.int c1)])) (fun _ k => X3.caload hx (j := (1 : Int32)) (v := (.int c1)) (by rw [e3]; exact Ar8.1) (State.isArrayOf_alike hZ.alike Ar8.2.1) Ar8.2.2 hin8 (H8.at hin8 rfl) (g := (mkF m 12 #[.val (.ref a), .val (.int (1 : Int32)), .val (.ref b), .val (.int (1 : Int32)), .val (.int (2 : Int32)), .val (.int (1 : Int32)), .val (.int c0)] [(.int (1 : Int32)), (.ref a)])) rfl rfl (hb hby d10_12) _ (XS.istore X3.here hx rfl (hb hby d10_13) rfl (l' := #[.val (.ref a), .val (.int (1 : Int32)), .val (.ref b), .val (.int (1 : Int32)), .val (.int (2 : Int32)), .val (.int (1 : Int32)), .val (.int c1)]) rfl (XS.iload X3.here hx rfl (hb hby d10_15) rfl  (XS.sipush X3.here hx rfl (hb hby d10_17) k)))) ?_
    by_cases g1 : (255 : Int32) < c1
    · refine Goes.on (B := T3.setTop (mkF m 25 #[.val (.ref a), .val (.int (1 : Int32)), .val (.ref b), .val (.int (1 : Int32)), .val (.int (2 : Int32)), .val (.int (1 : Int32)), .val (.int c1)] [(.int (1 : Int32))])) (fun _ k => XS.icmpNo X3.here hx rfl (hb hby d10_20) rfl (tlt g1).2.2.2 (XS.iload X3.here hx rfl (hb hby d10_23) rfl  k)) ?_
      obtain ⟨fs, hr, hrun, hended, hW, hsame⟩ := X3.leave (v := some (.int (1 : Int32))) (fun h => by rw [Bd.returns] at h; cases h)
      exact Goes.leaf (own_retI X3 hx Bd.returns (hb hby d10_25) hr) hrun hended ⟨_, _, rfl, by show QcI2 Z a b kC kB c0 c1 h0 n0 _ T3.heap _; rw [e3]; exact ⟨(1 : Int32), c1, rfl, N3, K7, by decide, g1, r1, ⟨by decide, by decide⟩, ⟨by decide, by decide⟩, rfl, rfl⟩, ⟨_, rfl⟩, hW, hsame.mono (by decide) (by decide)⟩
    · exact absurd ⟨g0, g1⟩ hwd
theorem ef_cB2 (m : MethodId) (x0 : Addr) (x1 : Int32) (x2 : Int32) : entryFrame m #[(.ref x0), (.int x1), (.int x2)] 6 = mkF m 0 #[.val (.ref x0), .val (.int x1), .val (.int x2), .unset, .unset, .unset] [] := by first | (simp [entryFrame, mkF, argsToLocals, Value.category]; done) | rfl
def QcB2 (Z : State) (a : Addr) (kC : ClassId) (c0 c1 : Int32) (GA : Int32) (GB : Value) (h0 : Heap) (n0 : Nat) (v : Option Value) (h : Heap) (L : List Loc) : Prop := ∃ (b : Addr) (kb : ClassId), v = some (.ref b) ∧ Fr n0 L ∧ Keep h0 h [] ∧ n0 ≤ b ∧ h0.size ≤ b ∧ Arv Z h b kb .byte (4 : Int32) [(.int (bA c0)), (.int (bB c0)), (.int (bA c1)), (.int (bB c1))] (.int (0 : Int32))
set_option maxRecDepth 65536 in
set_option maxHeartbeats 40000000 in
theorem rmcB2 (l : Launch) (Z : State) (a0 : Array Value) (hw : ∀ d ∈ tables_1, d.before a0 Z = true) (ws : List Jvm.Cond) (a : Addr) (kC : ClassId) (c0 c1 : Int32) (GA : Int32) (GB : Value) (h0 : Heap) (n0 : Nat) (Z0 : n0 ≤ h0.size) (SS : own_St Z GA GB) (X00 : Old Z n0 h0) (AC : Arv Z h0 a kC .char (2 : Int32) [(.int c0), (.int c1)] (.int (0 : Int32))) (r0 : own_rg c0) (r1 : own_rg c1) (hwd : ¬ (¬ (255 : Int32) < c0 ∧ ¬ (255 : Int32) < c1)) :
    MetFree l (⟨"java/lang/StringUTF16", "compress", "([CII)[B"⟩ : MethodName) (head1 (Jvm.Cond.code (⟨"java/lang/StringUTF16", "compress", "([CII)[B"⟩ : MethodName) jdk_52_method_16_code 6 (some (.array .byte)) :: ws) ({ frames := 3, cells := 2, slots := 6, locals := 42 } : Room)) (fun aa U => aa = #[(.ref a), (.int (0 : Int32)), (.int (2 : Int32))] ∧ Z.Warmed39 U.vm ∧ U.heap = h0) (fun _ _ _ _ _ => True) (fun _ U oo U' => ∃ vv LL, oo = .returned vv ∧ QcB2 Z a kC c0 c1 GA GB h0 n0 vv U'.heap LL ∧ FrameEnd U oo U' LL ({ frames := 3, cells := 2, slots := 6, locals := 42 } : Room).cells ({ frames := 3, cells := 2, slots := 6, locals := 42 } : Room).slots) := by
  refine MetFree.of_bodySF (plainFor_of_name pn_9) hisR ?_
  intro p e s m args below meth c s₁ Bd hml0 hP hK
  obtain ⟨rfl, hZ, hh⟩ := hP
  have hx := Bd.exec
  have hby := Bd.bytes
  have hml : c.maxLocals = 6 := hml0
  have hown : s.vm.findClass "java/lang/StringUTF16" = some m.cls := findClass_of_methodNamed Bd.named
  have hnm := (name_of_methodNamed Bd.named Bd.method).1
  have X0 : Stand p l e ({ frames := 3, cells := 2, slots := 6, locals := 42 } : Room) s m #[(.ref a), (.int (0 : Int32)), (.int (2 : Int32))] below meth c s₁ [] 0 0 := Stand.of_body Bd
  have e0 : s₁.heap = h0 := by rw [← hh, Bd.state]; rfl
  have N0 := Fr.nil n0
  show Goes p e below _ (s₁.setTop (entryFrame m #[(.ref a), (.int (0 : Int32)), (.int (2 : Int32))] 6))
  refine Goes.on (B := s₁.setTop (mkF m 0 #[.val (.ref a), .val (.int (0 : Int32)), .val (.int (2 : Int32)), .unset, .unset, .unset] [])) (fun t k => castTop (ef_cB2 m a (0 : Int32) (2 : Int32)) k) ?_
  refine Goes.on (B := s₁.setTop (mkF m 1 #[.val (.ref a), .val (.int (0 : Int32)), .val (.int (2 : Int32)), .unset, .unset, .unset] [(.int (2 : Int32))])) (fun _ k => XS.iloadN X0.here hx rfl (hb hby d9_0) rfl  k) ?_
  obtain ⟨T1, h1, k1, X1, e1, E1, A1, st1⟩ := newP X0 hx hZ (hw _ (om 23 rfl)) e0 (g := (mkF m 1 #[.val (.ref a), .val (.int (0 : Int32)), .val (.int (2 : Int32)), .unset, .unset, .unset] [(.int (2 : Int32))])) rfl (hb hby d9_1) rfl (by decide) (cap := 2) (by decide) (by decide) (by decide) (by decide)
  obtain ⟨b1, g1⟩ : ∃ z, z = h0.size := ⟨_, rfl⟩
  rw [← g1] at A1 st1
  have ne_a_b1 : a ≠ b1 := Nat.ne_of_lt (Nat.lt_of_lt_of_le AC.lt (Nat.le_of_eq g1.symm))
  have f2 := X00.ext E1
  have f3 := AC.ext E1
  have z4 : n0 ≤ h1.size := Nat.le_trans Z0 E1.1
  have K5 : Keep h0 h1 [] := (Keep.refl h0 []).ext E1
  have g_b1 : n0 ≤ b1 := Nat.le_trans Z0 (Nat.le_of_eq g1.symm)
  have sz_b1 : h0.size ≤ b1 := Nat.le_trans (Keep.refl h0 []).1 (Nat.le_of_eq g1.symm)
  have V1 : Arv Z h1 b1 k1 .byte (2 : Int32) [(.int (0 : Int32)), (.int (0 : Int32))] (.int (0 : Int32)) := (Arv.new A1 (by decide)).pad (pad_rep [] (.int (0 : Int32)) 2)
  refine Goes.on (B := T1.setTop (mkF m 3 #[.val (.ref a), .val (.int (0 : Int32)), .val (.int (2 : Int32)), .unset, .unset, .unset] [(.ref b1)])) (fun t k => st1 t k) ?_
  refine Goes.on (B := T1.setTop (mkF m 9 #[.val (.ref a), .val (.int (0 : Int32)), .val (.int (2 : Int32)), .val (.ref b1), .unset, .unset] [(.int (2 : Int32)), (.int (0 : Int32)), (.ref b1), (.int (0 : Int32)), (.ref a)])) (fun _ k => XS.astoreN X1.here hx rfl (hb hby d9_3) rfl rfl (l' := #[.val (.ref a), .val (.int (0 : Int32)), .val (.int (2 : Int32)), .val (.ref b1), .unset, .unset]) rfl (XS.aloadN X1.here hx rfl (hb hby d9_4) rfl rfl  (XS.iloadN X1.here hx rfl (hb hby d9_5) rfl  (XS.aloadN X1.here hx rfl (hb hby d9_6) rfl rfl  (XS.iconst X1.here hx rfl (hb hby d9_7) (XS.iloadN X1.here hx rfl (hb hby d9_8) rfl  k)))))) ?_
  obtain ⟨_, _, ⟨T6, L6, k6, n6⟩, -, X6, ⟨Lc6, hQ6, l6, y6, z6⟩, st6⟩ := Jvm.LawKit.callS X1 hx (y := (⟨"java/lang/StringUTF16", "compress", "([CI[BII)I"⟩ : MethodName)) hown (mvT hZ (hw _ (om 53 rfl))) (mvT hZ (hw _ (om 54 rfl))) (mvT hZ (hw _ (om 51 rfl))) (mvT hZ (hw _ (om 55 rfl))) (by decide) (backOf (W := 0) (rmcI2 l Z a0 hw [] a b1 kC k1 c0 c1 h1 n0 z4 f2 f3 V1 g_b1 ne_a_b1 r0 r1 hwd) hZ (hw _ (om 55 rfl)) (hw _ (om 51 rfl)) (by decide) (by decide)) (g := (mkF m 9 #[.val (.ref a), .val (.int (0 : Int32)), .val (.int (2 : Int32)), .val (.ref b1), .unset, .unset] [(.int (2 : Int32)), (.int (0 : Int32)), (.ref b1), (.int (0 : Int32)), (.ref a)])) rfl (by rw [hml]; rfl) (argsL := [(.ref a), (.int (0 : Int32)), (.ref b1), (.int (0 : Int32)), (.int (2 : Int32))]) (rest := []) (lenOf pd_9___CI_BII_I rfl) rfl (by show 2 * 0 + _ ≤ _; exact Nat.le_of_eq rfl) (hb hby d9_9) (fun _ _ => ⟨rfl, e1, (by decide : 1 + 0 ≤ _), (by decide : 2 + 0 ≤ _)⟩)
  dsimp only [Pt.U, Pt.locs, Pt.cells, Pt.slots] at X6 l6 y6 z6 st6 hQ6
  subst l6 y6 z6
  obtain ⟨ii, y, rfl, Nq6, Kq6, hne, hwy, ry, hi0, hi1, ha0, ha1⟩ := hQ6
  obtain ⟨h6, eh6⟩ : ∃ h, T6.heap = h := ⟨_, rfl⟩
  rw [eh6] at Kq6
  have f7 := f2.keep Kq6 (allS g_b1 all0)
  have f8 := f3.keep Kq6 (ninS ne_a_b1 nin0)
  have z9 : n0 ≤ h6.size := Nat.le_trans z4 Kq6.1
  have K10 : Keep h0 h6 [] := K5.trans Kq6 (allS (Or.inr sz_b1) all0)
  have N6 := Fr.app N0 Nq6
  refine Goes.on (B := T6.setTop (mkF m 12 #[.val (.ref a), .val (.int (0 : Int32)), .val (.int (2 : Int32)), .val (.ref b1), .unset, .unset] [(.int ii)])) (fun t k => st6 t k) ?_
  refine Goes.on (B := T6.setTop (mkF m 23 #[.val (.ref a), .val (.int (0 : Int32)), .val (.int (2 : Int32)), .val (.ref b1), .val (.int ii), .unset] [(.int (2 : Int32)), (.int (0 : Int32)), (.ref a)])) (fun _ k => XS.istore X6.here hx rfl (hb hby d9_12) rfl (l' := #[.val (.ref a), .val (.int (0 : Int32)), .val (.int (2 : Int32)), .val (.ref b1), .val (.int ii), .unset]) rfl (XS.iload X6.here hx rfl (hb hby d9_14) rfl  (XS.iloadN X6.here hx rfl (hb hby d9_16) rfl  (XS.icmpNo X6.here hx rfl (hb hby d9_17) rfl (feq hne).1 (XS.aloadN X6.here hx rfl (hb hby d9_20) rfl rfl  (XS.iloadN X6.here hx rfl (hb hby d9_21) rfl  (XS.iloadN X6.here hx rfl (hb hby d9_22) rfl  k))))))) ?_
  obtain ⟨_, _, ⟨T11, L11, k11, n11⟩, -, X11, ⟨Lc11, hQ11, l11, y11, z11⟩, st11⟩ := Jvm.LawKit.callS X6 hx (y := (⟨"java/lang/StringUTF16", "toBytes", "([CII)[B"⟩ : MethodName)) hown (mvT hZ (hw _ (om 90 rfl))) (mvT hZ (hw _ (om 91 rfl))) (mvT hZ (hw _ (om 51 rfl))) (mvT hZ (hw _ (om 92 rfl))) (by decide) (backOf (W := 0) (rmtb2 l Z a0 hw [] a kC c0 c1 GA GB h6 n0 z9 SS f7 f8) hZ (hw _ (om 92 rfl)) (hw _ (om 51 rfl)) (by decide) (by decide)) (g := (mkF m 23 #[.val (.ref a), .val (.int (0 : Int32)), .val (.int (2 : Int32)), .val (.ref b1), .val (.int ii), .unset] [(.int (2 : Int32)), (.int (0 : Int32)), (.ref a)])) rfl (by rw [hml]; rfl) (argsL := [(.ref a), (.int (0 : Int32)), (.int (2 : Int32))]) (rest := []) (lenOf pd_9___CII__B rfl) rfl (by show 2 * 0 + _ ≤ _; exact Nat.le_of_eq rfl) (hb hby d9_23) (fun _ _ => ⟨rfl, eh6, (by decide : 1 + 1 ≤ _), (by decide : 2 + 4 ≤ _)⟩)
  dsimp only [Pt.U, Pt.locs, Pt.cells, Pt.slots] at X11 l11 y11 z11 st11 hQ11
  subst l11 y11 z11
  obtain ⟨b11, kb11, rfl, Nq11, Kq11, g_b11, sq_b11, Vq11⟩ := hQ11
  obtain ⟨h11, eh11⟩ : ∃ h, T11.heap = h := ⟨_, rfl⟩
  rw [eh11] at Kq11 Vq11
  have ne_a_b11 : a ≠ b11 := Nat.ne_of_lt (Nat.lt_of_lt_of_le f8.lt sq_b11)
  have f12 := f7.keep Kq11 (all0)
  have f13 := f8.keep Kq11 nin0
  have z14 : n0 ≤ h11.size := Nat.le_trans z9 Kq11.1
  have K15 : Keep h0 h11 [] := K10.trans Kq11 all0
  have sz_b11 : h0.size ≤ b11 := Nat.le_trans K10.1 sq_b11
  have N11 := Fr.app N6 Nq11
  refine Goes.on (B := T11.setTop (mkF m 26 #[.val (.ref a), .val (.int (0 : Int32)), .val (.int (2 : Int32)), .val (.ref b1), .val (.int ii), .unset] [(.ref b11)])) (fun t k => st11 t k) ?_
  refine Goes.on (B := T11.setTop (mkF m 32 #[.val (.ref a), .val (.int (0 : Int32)), .val (.int (2 : Int32)), .val (.ref b1), .val (.int ii), .val (.ref b11)] [(.int ii), (.ref b11)])) (fun _ k => XS.astore X11.here hx rfl (hb hby d9_26) rfl rfl (l' := #[.val (.ref a), .val (.int (0 : Int32)), .val (.int (2 : Int32)), .val (.ref b1), .val (.int ii), .val (.ref b11)]) rfl (XS.aload X11.here hx rfl (hb hby d9_28) rfl rfl  (XS.iload X11.here hx rfl (hb hby d9_30) rfl  k))) ?_
  obtain ⟨_, _, ⟨T16, L16, k16, n16⟩, -, X16, ⟨Lc16, hQ16, l16, y16, z16⟩, st16⟩ := Jvm.LawKit.callS X11 hx (y := (⟨"java/lang/StringUTF16", "getChar", "([BI)C"⟩ : MethodName)) hown (mvT hZ (hw _ (om 106 rfl))) (mvT hZ (hw _ (om 107 rfl))) (mvT hZ (hw _ (om 51 rfl))) (mvT hZ (hw _ (om 108 rfl))) (by decide) (backOf (W := 0) (rmgc l Z a0 hw [] b11 ii kb11 (4 : Int32) [(.int (bA c0)), (.int (bB c0)), (.int (bA c1)), (.int (bB c1))] y GA GB h11 n0 z14 SS f12 Vq11 hi0 hi1 ha0 ha1 ry) hZ (hw _ (om 108 rfl)) (hw _ (om 51 rfl)) (by decide) (by decide)) (g := (mkF m 32 #[.val (.ref a), .val (.int (0 : Int32)), .val (.int (2 : Int32)), .val (.ref b1), .val (.int ii), .val (.ref b11)] [(.int ii), (.ref b11)])) rfl (by rw [hml]; rfl) (argsL := [(.ref b11), (.int ii)]) (rest := []) (lenOf pd_9___BI_C rfl) rfl (by show 2 * 0 + _ ≤ _; exact Nat.le_of_eq rfl) (hb hby d9_32) (fun _ _ => ⟨rfl, eh11, (by decide : 2 + 0 ≤ _), (by decide : 6 + 0 ≤ _)⟩)
  dsimp only [Pt.U, Pt.locs, Pt.cells, Pt.slots] at X16 l16 y16 z16 st16 hQ16
  subst l16 y16 z16
  obtain ⟨rfl, Nq16, eh16⟩ := hQ16
  have N16 := Fr.app N11 Nq16
  refine Goes.on (B := T16.setTop (mkF m 35 #[.val (.ref a), .val (.int (0 : Int32)), .val (.int (2 : Int32)), .val (.ref b1), .val (.int ii), .val (.ref b11)] [(.int y)])) (fun t k => st16 t k) ?_
  refine Goes.on (B := T16.setTop (mkF m 56 #[.val (.ref a), .val (.int (0 : Int32)), .val (.int (2 : Int32)), .val (.ref b1), .val (.int ii), .val (.ref b11)] [(.ref b11)])) (fun _ k => XS.sipush X16.here hx rfl (hb hby d9_35) (XS.icmpYes X16.here hx rfl (pc0 := 38) (pc' := 54) rfl (hb hby d9_38) rfl (tlt hwy).2.2.1 (by decide) (by decide) (XS.aload X16.here hx rfl (hb hby d9_54) rfl rfl  k))) ?_
  obtain ⟨fs, hr, hrun, hended, hW, hsame⟩ := X16.leave (v := some (.ref b11)) (fun h => by rw [Bd.returns] at h; cases h)
  exact Goes.leaf (own_retR X16 hx Bd.returns rfl rfl (hb hby d9_56) hr) hrun hended ⟨_, _, rfl, by show QcB2 Z a kC c0 c1 GA GB h0 n0 _ T16.heap _; rw [eh16]; exact ⟨b11, _, rfl, N16, K15, g_b11, sz_b11, Vq11⟩, ⟨_, rfl⟩, hW, hsame.mono (by decide) (by decide)⟩
theorem ef_cf2 (m : MethodId) (x0 : Addr) (x1 : Int32) : entryFrame m #[(.ref x0), (.int x1)] 2 = mkF m 0 #[.val (.ref x0), .val (.int x1)] [] := by first | (simp [entryFrame, mkF, argsToLocals, Value.category]; done) | rfl
def Qcf2 (Z : State) (a : Addr) (kA : ClassId) (vs : List Value) (h0 : Heap) (n0 : Nat) (v : Option Value) (h : Heap) (L : List Loc) : Prop := v = some (.int (1 : Int32)) ∧ Fr n0 L ∧ h = h0
set_option maxRecDepth 65536 in
set_option maxHeartbeats 40000000 in
theorem rmcf2 (l : Launch) (Z : State) (a0 : Array Value) (hw : ∀ d ∈ tables_1, d.before a0 Z = true) (ws : List Jvm.Cond) (a : Addr) (kA : ClassId) (vs : List Value) (h0 : Heap) (n0 : Nat) (Z0 : n0 ≤ h0.size) (AV : Arv Z h0 a kA .byte (4 : Int32) vs (.int (0 : Int32))) :
    MetFree l (⟨"java/lang/StringUTF16", "coderFromArrayLen", "([BI)B"⟩ : MethodName) (head1 (Jvm.Cond.code (⟨"java/lang/StringUTF16", "coderFromArrayLen", "([BI)B"⟩ : MethodName) jdk_52_method_15_code 2 (some .byte) :: ws) ({ frames := 0, cells := 0, slots := 0, locals := 0 } : Room)) (fun aa U => aa = #[(.ref a), (.int (2 : Int32))] ∧ Z.Warmed39 U.vm ∧ U.heap = h0) (fun _ _ _ _ _ => True) (fun _ U oo U' => ∃ vv LL, oo = .returned vv ∧ Qcf2 Z a kA vs h0 n0 vv U'.heap LL ∧ FrameEnd U oo U' LL ({ frames := 0, cells := 0, slots := 0, locals := 0 } : Room).cells ({ frames := 0, cells := 0, slots := 0, locals := 0 } : Room).slots) := by
  refine MetFree.of_bodySF (plainFor_of_name pn_11) hisR ?_
  intro p e s m args below meth c s₁ Bd hml0 hP hK
  obtain ⟨rfl, hZ, hh⟩ := hP
  have hx := Bd.exec
  have hby := Bd.bytes
  have hml : c.maxLocals = 2 := hml0
  have hown : s.vm.findClass "java/lang/StringUTF16" = some m.cls := findClass_of_methodNamed Bd.named
  have hnm := (name_of_methodNamed Bd.named Bd.method).1
  have X0 : Stand p l e ({ frames := 0, cells := 0, slots := 0, locals := 0 } : Room) s m #[(.ref a), (.int (2 : Int32))] below meth c s₁ [] 0 0 := Stand.of_body Bd
  have e0 : s₁.heap = h0 := by rw [← hh, Bd.state]; rfl
  have N0 := Fr.nil n0
  show Goes p e below _ (s₁.setTop (entryFrame m #[(.ref a), (.int (2 : Int32))] 2))
  refine Goes.on (B := s₁.setTop (mkF m 0 #[.val (.ref a), .val (.int (2 : Int32))] [])) (fun t k => castTop (ef_cf2 m a (2 : Int32)) k) ?_
  refine Goes.on (B := s₁.setTop (mkF m 2 #[.val (.ref a), .val (.int (2 : Int32))] [(.ref a), (.int (2 : Int32))])) (fun _ k => XS.iloadN X0.here hx rfl (hb hby d11_0) rfl  (XS.aloadN X0.here hx rfl (hb hby d11_1) rfl rfl  k)) ?_
  obtain ⟨cl1, Ar1, -, S1, Nn1, -, -⟩ := id AV
  refine Goes.on (B := s₁.setTop (mkF m 3 #[.val (.ref a), .val (.int (2 : Int32))] [(.int (4 : Int32)), (.int (2 : Int32))])) (fun t k => X0.arraylength hx (by rw [e0]; exact Ar1.1) (State.isArrayOf_alike hZ.alike Ar1.2.1) (g := (mkF m 2 #[.val (.ref a), .val (.int (2 : Int32))] [(.ref a), (.int (2 : Int32))])) rfl rfl (hb hby d11_2) t (by rw [len_of S1 Nn1]; exact k)) ?_
  refine Goes.on (B := s₁.setTop (mkF m 8 #[.val (.ref a), .val (.int (2 : Int32))] [(.int (1 : Int32))])) (fun _ k => XS.isub X0.here hx rfl (hb hby d11_3) rfl (XS.bipush X0.here hx rfl (hb hby d11_4) (XS.iushr X0.here hx rfl (hb hby d11_6) rfl (XS.i2b X0.here hx rfl (hb hby d11_7) rfl k)))) ?_
  obtain ⟨fs, hr, hrun, hended, hW, hsame⟩ := X0.leave (v := some (.int (1 : Int32))) (fun h => by rw [Bd.returns] at h; cases h)
  exact Goes.leaf (retN X0 hx (t := .byte) Bd.returns (by simp) (hb hby d11_8) hr) hrun hended ⟨_, _, rfl, by show Qcf2 Z a kA vs h0 n0 _ s₁.heap _; rw [e0]; exact ⟨rfl, N0, rfl⟩, ⟨_, rfl⟩, hW, hsame.mono (by decide) (by decide)⟩
theorem ef_v2 (m : MethodId) (x0 : Addr) (x1 : Addr) (x2 : Int32) (x3 : Int32) : entryFrame m #[(.ref x0), (.ref x1), (.int x2), (.int x3), .null] 6 = mkF m 0 #[.val (.ref x0), .val (.ref x1), .val (.int x2), .val (.int x3), .val .null, .unset] [] := by first | (simp [entryFrame, mkF, argsToLocals, Value.category]; done) | rfl
def Qv2 (Z : State) (x : Addr) (a : Addr) (kC : ClassId) (c0 c1 : Int32) (GA : Int32) (GB : Value) (h0 : Heap) (n0 : Nat) (v : Option Value) (h : Heap) (L : List Loc) : Prop := v = none ∧ Fr n0 L ∧ Keep h0 h [x] ∧ Exa Z h x "java/lang/String" ∧ Fld Z h x "java/lang/String" "coder" "B" (.int (1 : Int32)) ∧ ∃ (t : Addr) (kb : ClassId), n0 ≤ t ∧ Fld Z h x "java/lang/String" "value" "[B" (.ref t) ∧ Arv Z h t kb .byte (4 : Int32) [(.int (bA c0)), (.int (bB c0)), (.int (bA c1)), (.int (bB c1))] (.int (0 : Int32))
set_option maxRecDepth 65536 in
set_option maxHeartbeats 40000000 in
theorem rmv2 (l : Launch) (Z : State) (a0 : Array Value) (hw : ∀ d ∈ tables_1, d.before a0 Z = true) (ws : List Jvm.Cond) (x : Addr) (a : Addr) (kC : ClassId) (c0 c1 : Int32) (GA : Int32) (GB : Value) (h0 : Heap) (n0 : Nat) (Z0 : n0 ≤ h0.size) (SS : own_St Z GA GB) (X00 : Old Z n0 h0) (EX : Exa Z h0 x "java/lang/String") (FC : Fld Z h0 x "java/lang/String" "coder" "B" (.int (0 : Int32))) (FV : Fld Z h0 x "java/lang/String" "value" "[B" .null) (gx : n0 ≤ x) (AC : Arv Z h0 a kC .char (2 : Int32) [(.int c0), (.int c1)] (.int (0 : Int32))) (r0 : own_rg c0) (r1 : own_rg c1) (hwd : ¬ (¬ (255 : Int32) < c0 ∧ ¬ (255 : Int32) < c1)) :
    MetFree l (⟨"java/lang/String", "<init>", "([CIILjava/lang/Void;)V"⟩ : MethodName) (head1 (Jvm.Cond.code (⟨"java/lang/String", "<init>", "([CIILjava/lang/Void;)V"⟩ : MethodName) jdk_42_method_149_code 6 none :: ws) ({ frames := 4, cells := 2, slots := 6, locals := 60 } : Room)) (fun aa U => aa = #[(.ref x), (.ref a), (.int (0 : Int32)), (.int (2 : Int32)), .null] ∧ Z.Warmed39 U.vm ∧ U.heap = h0) (fun _ _ _ _ _ => True) (fun _ U oo U' => ∃ vv LL, oo = .returned vv ∧ Qv2 Z x a kC c0 c1 GA GB h0 n0 vv U'.heap LL ∧ FrameEnd U oo U' LL ({ frames := 4, cells := 2, slots := 6, locals := 60 } : Room).cells ({ frames := 4, cells := 2, slots := 6, locals := 60 } : Room).slots) := by
  refine MetFree.of_bodySF (plainFor_of_name pn_4) hisR ?_
  intro p e s m args below meth c s₁ Bd hml0 hP hK
  obtain ⟨rfl, hZ, hh⟩ := hP
  have hx := Bd.exec
  have hby := Bd.bytes
  have hml : c.maxLocals = 6 := hml0
  have hown : s.vm.findClass "java/lang/String" = some m.cls := findClass_of_methodNamed Bd.named
  have hnm := (name_of_methodNamed Bd.named Bd.method).1
  have X0 : Stand p l e ({ frames := 4, cells := 2, slots := 6, locals := 60 } : Room) s m #[(.ref x), (.ref a), (.int (0 : Int32)), (.int (2 : Int32)), .null] below meth c s₁ [] 0 0 := Stand.of_body Bd
  have e0 : s₁.heap = h0 := by rw [← hh, Bd.state]; rfl
  have N0 := Fr.nil n0
  show Goes p e below _ (s₁.setTop (entryFrame m #[(.ref x), (.ref a), (.int (0 : Int32)), (.int (2 : Int32)), .null] 6))
  refine Goes.on (B := s₁.setTop (mkF m 0 #[.val (.ref x), .val (.ref a), .val (.int (0 : Int32)), .val (.int (2 : Int32)), .val .null, .unset] [])) (fun t k => castTop (ef_v2 m x a (0 : Int32) (2 : Int32)) k) ?_
  refine Goes.on (B := s₁.setTop (mkF m 1 #[.val (.ref x), .val (.ref a), .val (.int (0 : Int32)), .val (.int (2 : Int32)), .val .null, .unset] [(.ref x)])) (fun _ k => XS.aloadN X0.here hx rfl (hb hby d4_0) rfl rfl  k) ?_
  obtain ⟨T1, X1, e1, st1⟩ := initO X0 hx hZ hown (hw _ (om 19 rfl)) (hw _ (om 20 rfl)) (hw _ (om 21 rfl)) e0 (g := (mkF m 1 #[.val (.ref x), .val (.ref a), .val (.int (0 : Int32)), .val (.int (2 : Int32)), .val .null, .unset] [(.ref x)])) rfl (by rw [hml]; rfl) rfl (hb hby d4_1) (by decide) (W := 0) (by show 2 * 0 + _ ≤ _; exact Nat.le_of_eq rfl) (by decide)
  refine Goes.on (B := T1.setTop (mkF m 4 #[.val (.ref x), .val (.ref a), .val (.int (0 : Int32)), .val (.int (2 : Int32)), .val .null, .unset] [])) (fun t k => st1 t k) ?_
  refine Goes.on (B := T1.setTop (mkF m 27 #[.val (.ref x), .val (.ref a), .val (.int (0 : Int32)), .val (.int (2 : Int32)), .val .null, .unset] [])) (fun _ k => XS.iloadN X1.here hx rfl (hb hby d4_4) rfl  (XS.ifYes X1.here hx rfl (pc0 := 5) (pc' := 27) rfl (hb hby d4_5) rfl ((if0 _ _).trans (feq (by decide)).2) (by decide) (by decide) k)) ?_
  obtain ⟨T2, X2, e2, st2⟩ := getS2 X1 hx hZ hown (host := "") (Or.inl (hw _ (om 48 rfl))) Via.refl e1 (SS.1.ext X00.2) (g := (mkF m 27 #[.val (.ref x), .val (.ref a), .val (.int (0 : Int32)), .val (.int (2 : Int32)), .val .null, .unset] [])) rfl (hb hby d4_27)
  refine Goes.on (B := T2.setTop (mkF m 30 #[.val (.ref x), .val (.ref a), .val (.int (0 : Int32)), .val (.int (2 : Int32)), .val .null, .unset] [(.int GA)])) (fun t k => st2 t k) ?_
  refine Goes.on (B := T2.setTop (mkF m 36 #[.val (.ref x), .val (.ref a), .val (.int (0 : Int32)), .val (.int (2 : Int32)), .val .null, .unset] [(.int (2 : Int32)), (.int (0 : Int32)), (.ref a)])) (fun _ k => XS.ifNo X2.here hx rfl (hb hby d4_30) rfl ((if0 _ _).trans (feq SS.2.1).1) (XS.aloadN X2.here hx rfl (hb hby d4_33) rfl rfl  (XS.iloadN X2.here hx rfl (hb hby d4_34) rfl  (XS.iloadN X2.here hx rfl (hb hby d4_35) rfl  k)))) ?_
  obtain ⟨_, _, ⟨T3, L3, k3, n3⟩, -, X3, ⟨Lc3, hQ3, l3, y3, z3⟩, st3⟩ := Jvm.LawKit.callS X2 hx (y := (⟨"java/lang/StringUTF16", "compress", "([CII)[B"⟩ : MethodName)) hown (mvT hZ (hw _ (om 49 rfl))) (mvT hZ (hw _ (om 50 rfl))) (mvT hZ (hw _ (om 51 rfl))) (mvT hZ (hw _ (om 52 rfl))) (by decide) (backOf (W := 0) (rmcB2 l Z a0 hw [] a kC c0 c1 GA GB h0 n0 Z0 SS X00 AC r0 r1 hwd) hZ (hw _ (om 52 rfl)) (hw _ (om 51 rfl)) (by decide) (by decide)) (g := (mkF m 36 #[.val (.ref x), .val (.ref a), .val (.int (0 : Int32)), .val (.int (2 : Int32)), .val .null, .unset] [(.int (2 : Int32)), (.int (0 : Int32)), (.ref a)])) rfl (by rw [hml]; rfl) (argsL := [(.ref a), (.int (0 : Int32)), (.int (2 : Int32))]) (rest := []) (lenOf pd_4___CII__B rfl) rfl (by show 2 * 0 + _ ≤ _; exact Nat.le_of_eq rfl) (hb hby d4_36) (fun _ _ => ⟨rfl, e2, (by decide : 0 + 2 ≤ _), (by decide : 0 + 6 ≤ _)⟩)
  dsimp only [Pt.U, Pt.locs, Pt.cells, Pt.slots] at X3 l3 y3 z3 st3 hQ3
  subst l3 y3 z3
  obtain ⟨b3, kb3, rfl, Nq3, Kq3, g_b3, sq_b3, Vq3⟩ := hQ3
  obtain ⟨h3, eh3⟩ : ∃ h, T3.heap = h := ⟨_, rfl⟩
  rw [eh3] at Kq3 Vq3
  have ne_x_b3 : x ≠ b3 := Nat.ne_of_lt (Nat.lt_of_lt_of_le EX.lt sq_b3)
  have ne_a_b3 : a ≠ b3 := Nat.ne_of_lt (Nat.lt_of_lt_of_le AC.lt sq_b3)
  have f4 := X00.keep Kq3 (all0)
  have f5 := EX.keep Kq3
  have f6 := FC.keep Kq3 nin0
  have f7 := FV.keep Kq3 nin0
  have f8 := AC.keep Kq3 nin0
  have z9 : n0 ≤ h3.size := Nat.le_trans Z0 Kq3.1
  have K10 : Keep h0 h3 [x] := (Keep.refl h0 [x]).trans Kq3 all0
  have sz_b3 : h0.size ≤ b3 := Nat.le_trans (Keep.refl h0 [x]).1 sq_b3
  have N3 := Fr.app N0 Nq3
  refine Goes.on (B := T3.setTop (mkF m 39 #[.val (.ref x), .val (.ref a), .val (.int (0 : Int32)), .val (.int (2 : Int32)), .val .null, .unset] [(.ref b3)])) (fun t k => st3 t k) ?_
  refine Goes.on (B := T3.setTop (mkF m 45 #[.val (.ref x), .val (.ref a), .val (.int (0 : Int32)), .val (.int (2 : Int32)), .val .null, .val (.ref b3)] [(.int (2 : Int32)), (.ref b3), (.ref x)])) (fun _ k => XS.astore X3.here hx rfl (hb hby d4_39) rfl rfl (l' := #[.val (.ref x), .val (.ref a), .val (.int (0 : Int32)), .val (.int (2 : Int32)), .val .null, .val (.ref b3)]) rfl (XS.aloadN X3.here hx rfl (hb hby d4_41) rfl rfl  (XS.aload X3.here hx rfl (hb hby d4_42) rfl rfl  (XS.iloadN X3.here hx rfl (hb hby d4_44) rfl  k)))) ?_
  obtain ⟨_, _, ⟨T11, L11, k11, n11⟩, -, X11, ⟨Lc11, hQ11, l11, y11, z11⟩, st11⟩ := Jvm.LawKit.callS X3 hx (y := (⟨"java/lang/StringUTF16", "coderFromArrayLen", "([BI)B"⟩ : MethodName)) hown (mvT hZ (hw _ (om 56 rfl))) (mvT hZ (hw _ (om 57 rfl))) (mvT hZ (hw _ (om 51 rfl))) (mvT hZ (hw _ (om 58 rfl))) (by decide) (backOf (W := 1) (rmcf2 l Z a0 hw [] b3 kb3 [(.int (bA c0)), (.int (bB c0)), (.int (bA c1)), (.int (bB c1))] h3 n0 z9 Vq3) hZ (hw _ (om 58 rfl)) (hw _ (om 51 rfl)) (by decide) (by decide)) (g := (mkF m 45 #[.val (.ref x), .val (.ref a), .val (.int (0 : Int32)), .val (.int (2 : Int32)), .val .null, .val (.ref b3)] [(.int (2 : Int32)), (.ref b3), (.ref x)])) rfl (by rw [hml]; rfl) (argsL := [(.ref b3), (.int (2 : Int32))]) (rest := [(.ref x)]) (lenOf pd_4___BI_B rfl) rfl (by show 2 * 0 + _ ≤ _; exact Nat.le_of_eq rfl) (hb hby d4_45) (fun _ _ => ⟨rfl, eh3, (by decide : 2 + 0 ≤ _), (by decide : 6 + 0 ≤ _)⟩)
  dsimp only [Pt.U, Pt.locs, Pt.cells, Pt.slots] at X11 l11 y11 z11 st11 hQ11
  subst l11 y11 z11
  obtain ⟨rfl, Nq11, eh11⟩ := hQ11
  have N11 := Fr.app N3 Nq11
  refine Goes.on (B := T11.setTop (mkF m 48 #[.val (.ref x), .val (.ref a), .val (.int (0 : Int32)), .val (.int (2 : Int32)), .val .null, .val (.ref b3)] [(.int (1 : Int32)), (.ref x)])) (fun t k => st11 t k) ?_
  obtain ⟨T12, h12, X12, e12, W12, st12⟩ := putF X11 hx hZ hown (host := "") (Or.inl (hw _ (om 29 rfl))) Via.refl eh11 f6 f5 (Or.inr ⟨(hw _ (om 25 rfl)), rfl, hnm⟩) (hw _ (om 9 rfl)) (ty := .byte) (by decide) rfl rfl (g := (mkF m 48 #[.val (.ref x), .val (.ref a), .val (.int (0 : Int32)), .val (.int (2 : Int32)), .val .null, .val (.ref b3)] [(.int (1 : Int32)), (.ref x)])) rfl rfl (hb hby d4_48)
  have f13 := f4.wr W12 gx
  have f14 := f5.wr W12
  have f15 := f6.same W12
  have f16 := f7.other W12 (Or.inr (slot_ne (Or.inr (hw _ (om 24 rfl))) (Or.inr (hw _ (om 25 rfl))) (by decide) (t := (.array .byte)) (t' := .byte) (by decide) (by decide)))
  have f17 := Vq3.other W12 (Ne.symm ne_x_b3)
  have z18 : n0 ≤ h12.size := Nat.le_trans z9 (Keep.of_wr W12).1
  have K19 : Keep h0 h12 [x] := K10.wr W12 (Or.inl (om 0 rfl))
  have N12 := Fr.snoc X12 N11 gx
  refine Goes.on (B := T12.setTop (mkF m 51 #[.val (.ref x), .val (.ref a), .val (.int (0 : Int32)), .val (.int (2 : Int32)), .val .null, .val (.ref b3)] [])) (fun t k => st12 t k) ?_
  refine Goes.on (B := T12.setTop (mkF m 54 #[.val (.ref x), .val (.ref a), .val (.int (0 : Int32)), .val (.int (2 : Int32)), .val .null, .val (.ref b3)] [(.ref b3), (.ref x)])) (fun _ k => XS.aloadN X12.here hx rfl (hb hby d4_51) rfl rfl  (XS.aload X12.here hx rfl (hb hby d4_52) rfl rfl  k)) ?_
  obtain ⟨T20, h20, X20, e20, W20, st20⟩ := putF X12 hx hZ hown (host := "") (Or.inl (hw _ (om 28 rfl))) Via.refl e12 f16 f14 (Or.inr ⟨(hw _ (om 24 rfl)), rfl, hnm⟩) (hw _ (om 9 rfl)) (ty := (.array .byte)) (by decide) rfl rfl (g := (mkF m 54 #[.val (.ref x), .val (.ref a), .val (.int (0 : Int32)), .val (.int (2 : Int32)), .val .null, .val (.ref b3)] [(.ref b3), (.ref x)])) rfl rfl (hb hby d4_54)
  have f21 := f13.wr W20 gx
  have f22 := f14.wr W20
  have f23 := f15.other W20 (Or.inr (slot_ne (Or.inr (hw _ (om 25 rfl))) (Or.inr (hw _ (om 24 rfl))) (by decide) (t := .byte) (t' := (.array .byte)) (by decide) (by decide)))
  have f24 := f16.same W20
  have f25 := f17.other W20 (Ne.symm ne_x_b3)
  have z26 : n0 ≤ h20.size := Nat.le_trans z18 (Keep.of_wr W20).1
  have K27 : Keep h0 h20 [x] := K19.wr W20 (Or.inl (om 0 rfl))
  have N20 := Fr.snoc X20 N12 gx
  refine Goes.on (B := T20.setTop (mkF m 57 #[.val (.ref x), .val (.ref a), .val (.int (0 : Int32)), .val (.int (2 : Int32)), .val .null, .val (.ref b3)] [])) (fun t k => st20 t k) ?_
  obtain ⟨fs, hr, hrun, hended, hW, hsame⟩ := X20.leave (v := none) (fun _ => rfl)
  exact Goes.leaf (X20.returnOut hx Bd.returns (hb hby d4_57) hr) hrun hended ⟨_, _, rfl, by show Qv2 Z x a kC c0 c1 GA GB h0 n0 _ T20.heap _; rw [e20]; exact ⟨rfl, N20, K27, f22, f23, b3, _, g_b3, f24, f25⟩, ⟨_, rfl⟩, hW, hsame.mono (by decide) (by decide)⟩
theorem ef_u2 (m : MethodId) (x0 : Addr) (x1 : Addr) : entryFrame m #[(.ref x0), (.ref x1)] 2 = mkF m 0 #[.val (.ref x0), .val (.ref x1)] [] := by first | (simp [entryFrame, mkF, argsToLocals, Value.category]; done) | rfl
def Qu2 (Z : State) (x : Addr) (a : Addr) (kC : ClassId) (c0 c1 : Int32) (GA : Int32) (GB : Value) (h0 : Heap) (n0 : Nat) (v : Option Value) (h : Heap) (L : List Loc) : Prop := v = none ∧ Fr n0 L ∧ Keep h0 h [x] ∧ Exa Z h x "java/lang/String" ∧ Fld Z h x "java/lang/String" "coder" "B" (.int (1 : Int32)) ∧ ∃ (t : Addr) (kb : ClassId), n0 ≤ t ∧ Fld Z h x "java/lang/String" "value" "[B" (.ref t) ∧ Arv Z h t kb .byte (4 : Int32) [(.int (bA c0)), (.int (bB c0)), (.int (bA c1)), (.int (bB c1))] (.int (0 : Int32))
set_option maxRecDepth 65536 in
set_option maxHeartbeats 40000000 in
theorem rmu2 (l : Launch) (Z : State) (a0 : Array Value) (hw : ∀ d ∈ tables_1, d.before a0 Z = true) (ws : List Jvm.Cond) (x : Addr) (a : Addr) (kC : ClassId) (c0 c1 : Int32) (GA : Int32) (GB : Value) (h0 : Heap) (n0 : Nat) (Z0 : n0 ≤ h0.size) (SS : own_St Z GA GB) (X00 : Old Z n0 h0) (EX : Exa Z h0 x "java/lang/String") (FC : Fld Z h0 x "java/lang/String" "coder" "B" (.int (0 : Int32))) (FV : Fld Z h0 x "java/lang/String" "value" "[B" .null) (gx : n0 ≤ x) (AC : Arv Z h0 a kC .char (2 : Int32) [(.int c0), (.int c1)] (.int (0 : Int32))) (r0 : own_rg c0) (r1 : own_rg c1) (hwd : ¬ (¬ (255 : Int32) < c0 ∧ ¬ (255 : Int32) < c1)) :
    MetFree l (⟨"java/lang/String", "<init>", "([C)V"⟩ : MethodName) (head1 (Jvm.Cond.code (⟨"java/lang/String", "<init>", "([C)V"⟩ : MethodName) jdk_42_method_3_code 2 none :: ws) ({ frames := 5, cells := 2, slots := 6, locals := 77 } : Room)) (fun aa U => aa = #[(.ref x), (.ref a)] ∧ Z.Warmed39 U.vm ∧ U.heap = h0) (fun _ _ _ _ _ => True) (fun _ U oo U' => ∃ vv LL, oo = .returned vv ∧ Qu2 Z x a kC c0 c1 GA GB h0 n0 vv U'.heap LL ∧ FrameEnd U oo U' LL ({ frames := 5, cells := 2, slots := 6, locals := 77 } : Room).cells ({ frames := 5, cells := 2, slots := 6, locals := 77 } : Room).slots) := by
  refine MetFree.of_bodySF (plainFor_of_name pn_3) hisR ?_
  intro p e s m args below meth c s₁ Bd hml0 hP hK
  obtain ⟨rfl, hZ, hh⟩ := hP
  have hx := Bd.exec
  have hby := Bd.bytes
  have hml : c.maxLocals = 2 := hml0
  have hown : s.vm.findClass "java/lang/String" = some m.cls := findClass_of_methodNamed Bd.named
  have hnm := (name_of_methodNamed Bd.named Bd.method).1
  have X0 : Stand p l e ({ frames := 5, cells := 2, slots := 6, locals := 77 } : Room) s m #[(.ref x), (.ref a)] below meth c s₁ [] 0 0 := Stand.of_body Bd
  have e0 : s₁.heap = h0 := by rw [← hh, Bd.state]; rfl
  have N0 := Fr.nil n0
  show Goes p e below _ (s₁.setTop (entryFrame m #[(.ref x), (.ref a)] 2))
  refine Goes.on (B := s₁.setTop (mkF m 0 #[.val (.ref x), .val (.ref a)] [])) (fun t k => castTop (ef_u2 m x a) k) ?_
  refine Goes.on (B := s₁.setTop (mkF m 4 #[.val (.ref x), .val (.ref a)] [(.ref a), (.int (0 : Int32)), (.ref a), (.ref x)])) (fun _ k => XS.aloadN X0.here hx rfl (hb hby d3_0) rfl rfl  (XS.aloadN X0.here hx rfl (hb hby d3_1) rfl rfl  (XS.iconst X0.here hx rfl (hb hby d3_2) (XS.aloadN X0.here hx rfl (hb hby d3_3) rfl rfl  k)))) ?_
  obtain ⟨cl1, Ar1, -, S1, Nn1, -, -⟩ := id AC
  refine Goes.on (B := s₁.setTop (mkF m 5 #[.val (.ref x), .val (.ref a)] [(.int (2 : Int32)), (.int (0 : Int32)), (.ref a), (.ref x)])) (fun t k => X0.arraylength hx (by rw [e0]; exact Ar1.1) (State.isArrayOf_alike hZ.alike Ar1.2.1) (g := (mkF m 4 #[.val (.ref x), .val (.ref a)] [(.ref a), (.int (0 : Int32)), (.ref a), (.ref x)])) rfl rfl (hb hby d3_4) t (by rw [len_of S1 Nn1]; exact k)) ?_
  refine Goes.on (B := s₁.setTop (mkF m 6 #[.val (.ref x), .val (.ref a)] [.null, (.int (2 : Int32)), (.int (0 : Int32)), (.ref a), (.ref x)])) (fun _ k => XS.aconstNull X0.here hx rfl (hb hby d3_5) k) ?_
  obtain ⟨_, _, ⟨T2, L2, k2, n2⟩, -, X2, ⟨Lc2, hQ2, l2, y2, z2⟩, st2⟩ := X0.specialBack hx (y := (⟨"java/lang/String", "<init>", "([CIILjava/lang/Void;)V"⟩ : MethodName)) rfl hown (mvT hZ (hw _ (om 15 rfl))) (mvT hZ (hw _ (om 16 rfl))) (mvT hZ (hw _ (om 18 rfl))) (by decide) (backOf (W := 0) (rmv2 l Z a0 hw [] x a kC c0 c1 GA GB h0 n0 Z0 SS X00 EX FC FV gx AC r0 r1 hwd) hZ (hw _ (om 18 rfl)) (hw _ (om 10 rfl)) (by decide) (by decide)) (g := (mkF m 6 #[.val (.ref x), .val (.ref a)] [.null, (.int (2 : Int32)), (.int (0 : Int32)), (.ref a), (.ref x)])) rfl (by rw [hml]; rfl) (Steps.refl _) (a := x) (argsL := [(.ref a), (.int (0 : Int32)), (.int (2 : Int32)), .null]) (rest := []) (lenOf pd_3___CIILjava_lang_Void__V rfl) rfl (by show 2 * 0 + _ ≤ _; exact Nat.le_of_eq rfl) (hb hby d3_6) (fun _ _ => ⟨rfl, e0, (by decide : 0 + 2 ≤ _), (by decide : 0 + 6 ≤ _)⟩)
  dsimp only [Pt.U, Pt.locs, Pt.cells, Pt.slots] at X2 l2 y2 z2 st2 hQ2
  subst l2 y2 z2
  obtain ⟨rfl, Nq2, Kq2, Eq2, Cq2, t2, kt2, gt2, Fq2, Aq2⟩ := hQ2
  obtain ⟨h2, eh2⟩ : ∃ h, T2.heap = h := ⟨_, rfl⟩
  rw [eh2] at Kq2 Eq2 Cq2 Fq2 Aq2
  have f3 := X00.keep Kq2 (allS gx all0)
  have f4 := EX.keep Kq2
  have z5 : n0 ≤ h2.size := Nat.le_trans Z0 Kq2.1
  have K6 : Keep h0 h2 [x] := (Keep.refl h0 [x]).trans Kq2 (allS (Or.inl (om 0 rfl)) all0)
  have N2 := Fr.app N0 Nq2
  refine Goes.on (B := T2.setTop (mkF m 9 #[.val (.ref x), .val (.ref a)] [])) (fun t k => st2.trans k) ?_
  obtain ⟨fs, hr, hrun, hended, hW, hsame⟩ := X2.leave (v := none) (fun _ => rfl)
  exact Goes.leaf (X2.returnOut hx Bd.returns (hb hby d3_9) hr) hrun hended ⟨_, _, rfl, by show Qu2 Z x a kC c0 c1 GA GB h0 n0 _ T2.heap _; rw [eh2]; exact ⟨rfl, N2, K6, Eq2, Cq2, t2, _, gt2, Fq2, Aq2⟩, ⟨_, rfl⟩, hW, hsame.mono (by decide) (by decide)⟩
theorem ef_nl3 (m : MethodId) (x0 : Int32) : entryFrame m #[(.int x0)] 1 = mkF m 0 #[.val (.int x0)] [] := by first | (simp [entryFrame, mkF, argsToLocals, Value.category]; done) | rfl
def Qnl3 (Z : State)   (h0 : Heap) (n0 : Nat) (v : Option Value) (h : Heap) (L : List Loc) : Prop := v = some (.int (6 : Int32)) ∧ Fr n0 L ∧ h = h0
set_option maxRecDepth 65536 in
set_option maxHeartbeats 40000000 in
theorem rmnl3 (l : Launch) (Z : State) (a0 : Array Value) (hw : ∀ d ∈ tables_1, d.before a0 Z = true) (ws : List Jvm.Cond)   (h0 : Heap) (n0 : Nat) (Z0 : n0 ≤ h0.size)  :
    MetFree l (⟨"java/lang/StringUTF16", "newBytesLength", "(I)I"⟩ : MethodName) (head1 (Jvm.Cond.code (⟨"java/lang/StringUTF16", "newBytesLength", "(I)I"⟩ : MethodName) jdk_52_method_3_code 1 (some .int) :: ws) ({ frames := 0, cells := 0, slots := 0, locals := 0 } : Room)) (fun aa U => aa = #[(.int (3 : Int32))] ∧ Z.Warmed39 U.vm ∧ U.heap = h0) (fun _ _ _ _ _ => True) (fun _ U oo U' => ∃ vv LL, oo = .returned vv ∧ Qnl3 Z  h0 n0 vv U'.heap LL ∧ FrameEnd U oo U' LL ({ frames := 0, cells := 0, slots := 0, locals := 0 } : Room).cells ({ frames := 0, cells := 0, slots := 0, locals := 0 } : Room).slots) := by
  refine MetFree.of_bodySF (plainFor_of_name pn_21) hisR ?_
  intro p e s m args below meth c s₁ Bd hml0 hP hK
  obtain ⟨rfl, hZ, hh⟩ := hP
  have hx := Bd.exec
  have hby := Bd.bytes
  have hml : c.maxLocals = 1 := hml0
  have hown : s.vm.findClass "java/lang/StringUTF16" = some m.cls := findClass_of_methodNamed Bd.named
  have hnm := (name_of_methodNamed Bd.named Bd.method).1
  have X0 : Stand p l e ({ frames := 0, cells := 0, slots := 0, locals := 0 } : Room) s m #[(.int (3 : Int32))] below meth c s₁ [] 0 0 := Stand.of_body Bd
  have e0 : s₁.heap = h0 := by rw [← hh, Bd.state]; rfl
  have N0 := Fr.nil n0
  show Goes p e below _ (s₁.setTop (entryFrame m #[(.int (3 : Int32))] 1))
  refine Goes.on (B := s₁.setTop (mkF m 0 #[.val (.int (3 : Int32))] [])) (fun t k => castTop (ef_nl3 m (3 : Int32)) k) ?_
  refine Goes.on (B := s₁.setTop (mkF m 58 #[.val (.int (3 : Int32))] [(.int (6 : Int32))])) (fun _ k => XS.iloadN X0.here hx rfl (hb hby d21_0) rfl  (XS.ifYes X0.here hx rfl (pc0 := 1) (pc' := 12) rfl (hb hby d21_1) rfl ((if0 _ _).trans (flt (by decide)).2.1) (by decide) (by decide) (XS.iloadN X0.here hx rfl (hb hby d21_12) rfl  (X0.ldcInt hx hown (mvT hZ (hw _ (om 99 rfl))) (g := (mkF m 13 #[.val (.int (3 : Int32))] [(.int (3 : Int32))])) rfl (hb hby d21_13) _ (XS.icmpYes X0.here hx rfl (pc0 := 15) (pc' := 55) rfl (hb hby d21_15) rfl (tlt (by decide)).1 (by decide) (by decide) (XS.iloadN X0.here hx rfl (hb hby d21_55) rfl  (XS.iconst X0.here hx rfl (hb hby d21_56) (XS.ishl X0.here hx rfl (hb hby d21_57) rfl k)))))))) ?_
  obtain ⟨fs, hr, hrun, hended, hW, hsame⟩ := X0.leave (v := some (.int (6 : Int32))) (fun h => by rw [Bd.returns] at h; cases h)
  exact Goes.leaf (own_retI X0 hx Bd.returns (hb hby d21_58) hr) hrun hended ⟨_, _, rfl, by show Qnl3 Z  h0 n0 _ s₁.heap _; rw [e0]; exact ⟨rfl, N0, rfl⟩, ⟨_, rfl⟩, hW, hsame.mono (by decide) (by decide)⟩
theorem ef_nf3 (m : MethodId) (x0 : Int32) : entryFrame m #[(.int x0)] 1 = mkF m 0 #[.val (.int x0)] [] := by first | (simp [entryFrame, mkF, argsToLocals, Value.category]; done) | rfl
def Qnf3 (Z : State)   (h0 : Heap) (n0 : Nat) (v : Option Value) (h : Heap) (L : List Loc) : Prop := ∃ (b : Addr) (kb : ClassId), v = some (.ref b) ∧ Fr n0 L ∧ Keep h0 h [] ∧ n0 ≤ b ∧ h0.size ≤ b ∧ Arv Z h b kb .byte (6 : Int32) [(.int (0 : Int32)), (.int (0 : Int32)), (.int (0 : Int32)), (.int (0 : Int32)), (.int (0 : Int32)), (.int (0 : Int32))] (.int (0 : Int32))
set_option maxRecDepth 65536 in
set_option maxHeartbeats 40000000 in
theorem rmnf3 (l : Launch) (Z : State) (a0 : Array Value) (hw : ∀ d ∈ tables_1, d.before a0 Z = true) (ws : List Jvm.Cond)   (h0 : Heap) (n0 : Nat) (Z0 : n0 ≤ h0.size) (X00 : Old Z n0 h0) :
    MetFree l (⟨"java/lang/StringUTF16", "newBytesFor", "(I)[B"⟩ : MethodName) (head1 (Jvm.Cond.code (⟨"java/lang/StringUTF16", "newBytesFor", "(I)[B"⟩ : MethodName) jdk_52_method_2_code 1 (some (.array .byte)) :: ws) ({ frames := 1, cells := 1, slots := 6, locals := 12 } : Room)) (fun aa U => aa = #[(.int (3 : Int32))] ∧ Z.Warmed39 U.vm ∧ U.heap = h0) (fun _ _ _ _ _ => True) (fun _ U oo U' => ∃ vv LL, oo = .returned vv ∧ Qnf3 Z  h0 n0 vv U'.heap LL ∧ FrameEnd U oo U' LL ({ frames := 1, cells := 1, slots := 6, locals := 12 } : Room).cells ({ frames := 1, cells := 1, slots := 6, locals := 12 } : Room).slots) := by
  refine MetFree.of_bodySF (plainFor_of_name pn_20) hisR ?_
  intro p e s m args below meth c s₁ Bd hml0 hP hK
  obtain ⟨rfl, hZ, hh⟩ := hP
  have hx := Bd.exec
  have hby := Bd.bytes
  have hml : c.maxLocals = 1 := hml0
  have hown : s.vm.findClass "java/lang/StringUTF16" = some m.cls := findClass_of_methodNamed Bd.named
  have hnm := (name_of_methodNamed Bd.named Bd.method).1
  have X0 : Stand p l e ({ frames := 1, cells := 1, slots := 6, locals := 12 } : Room) s m #[(.int (3 : Int32))] below meth c s₁ [] 0 0 := Stand.of_body Bd
  have e0 : s₁.heap = h0 := by rw [← hh, Bd.state]; rfl
  have N0 := Fr.nil n0
  show Goes p e below _ (s₁.setTop (entryFrame m #[(.int (3 : Int32))] 1))
  refine Goes.on (B := s₁.setTop (mkF m 0 #[.val (.int (3 : Int32))] [])) (fun t k => castTop (ef_nf3 m (3 : Int32)) k) ?_
  refine Goes.on (B := s₁.setTop (mkF m 1 #[.val (.int (3 : Int32))] [(.int (3 : Int32))])) (fun _ k => XS.iloadN X0.here hx rfl (hb hby d20_0) rfl  k) ?_
  obtain ⟨_, _, ⟨T1, L1, k1, n1⟩, -, X1, ⟨Lc1, hQ1, l1, y1, z1⟩, st1⟩ := Jvm.LawKit.callS X0 hx (y := (⟨"java/lang/StringUTF16", "newBytesLength", "(I)I"⟩ : MethodName)) hown (mvT hZ (hw _ (om 96 rfl))) (mvT hZ (hw _ (om 97 rfl))) (mvT hZ (hw _ (om 51 rfl))) (mvT hZ (hw _ (om 98 rfl))) (by decide) (backOf (W := 0) (rmnl3 l Z a0 hw []  h0 n0 Z0) hZ (hw _ (om 98 rfl)) (hw _ (om 51 rfl)) (by decide) (by decide)) (g := (mkF m 1 #[.val (.int (3 : Int32))] [(.int (3 : Int32))])) rfl (by rw [hml]; rfl) (argsL := [(.int (3 : Int32))]) (rest := []) (lenOf pd_20__I_I rfl) rfl (by show 2 * 0 + _ ≤ _; exact Nat.le_of_eq rfl) (hb hby d20_1) (fun _ _ => ⟨rfl, e0, (by decide : 0 + 0 ≤ _), (by decide : 0 + 0 ≤ _)⟩)
  dsimp only [Pt.U, Pt.locs, Pt.cells, Pt.slots] at X1 l1 y1 z1 st1 hQ1
  subst l1 y1 z1
  obtain ⟨rfl, Nq1, eh1⟩ := hQ1
  have N1 := Fr.app N0 Nq1
  refine Goes.on (B := T1.setTop (mkF m 4 #[.val (.int (3 : Int32))] [(.int (6 : Int32))])) (fun t k => st1 t k) ?_
  obtain ⟨T2, h2, k2, X2, e2, E2, A2, st2⟩ := newP X1 hx hZ (hw _ (om 23 rfl)) eh1 (g := (mkF m 4 #[.val (.int (3 : Int32))] [(.int (6 : Int32))])) rfl (hb hby d20_4) rfl (by decide) (cap := 6) (by decide) (by decide) (by decide) (by decide)
  obtain ⟨b2, g2⟩ : ∃ z, z = h0.size := ⟨_, rfl⟩
  rw [← g2] at A2 st2
  have f3 := X00.ext E2
  have z4 : n0 ≤ h2.size := Nat.le_trans Z0 E2.1
  have K5 : Keep h0 h2 [] := (Keep.refl h0 []).ext E2
  have g_b2 : n0 ≤ b2 := Nat.le_trans Z0 (Nat.le_of_eq g2.symm)
  have sz_b2 : h0.size ≤ b2 := Nat.le_trans (Keep.refl h0 []).1 (Nat.le_of_eq g2.symm)
  have V2 : Arv Z h2 b2 k2 .byte (6 : Int32) [(.int (0 : Int32)), (.int (0 : Int32)), (.int (0 : Int32)), (.int (0 : Int32)), (.int (0 : Int32)), (.int (0 : Int32))] (.int (0 : Int32)) := (Arv.new A2 (by decide)).pad (pad_rep [] (.int (0 : Int32)) 6)
  refine Goes.on (B := T2.setTop (mkF m 6 #[.val (.int (3 : Int32))] [(.ref b2)])) (fun t k => st2 t k) ?_
  obtain ⟨fs, hr, hrun, hended, hW, hsame⟩ := X2.leave (v := some (.ref b2)) (fun h => by rw [Bd.returns] at h; cases h)
  exact Goes.leaf (own_retR X2 hx Bd.returns rfl rfl (hb hby d20_6) hr) hrun hended ⟨_, _, rfl, by show Qnf3 Z  h0 n0 _ T2.heap _; rw [e2]; exact ⟨b2, _, rfl, N1, K5, g_b2, sz_b2, V2⟩, ⟨_, rfl⟩, hW, hsame.mono (by decide) (by decide)⟩
theorem ef_tb3 (m : MethodId) (x0 : Addr) (x1 : Int32) (x2 : Int32) : entryFrame m #[(.ref x0), (.int x1), (.int x2)] 5 = mkF m 0 #[.val (.ref x0), .val (.int x1), .val (.int x2), .unset, .unset] [] := by first | (simp [entryFrame, mkF, argsToLocals, Value.category]; done) | rfl
def Qtb3 (Z : State) (a : Addr) (kC : ClassId) (c0 c1 c2 : Int32) (GA : Int32) (GB : Value) (h0 : Heap) (n0 : Nat) (v : Option Value) (h : Heap) (L : List Loc) : Prop := ∃ (b : Addr) (kb : ClassId), v = some (.ref b) ∧ Fr n0 L ∧ Keep h0 h [] ∧ n0 ≤ b ∧ h0.size ≤ b ∧ Arv Z h b kb .byte (6 : Int32) [(.int (bA c0)), (.int (bB c0)), (.int (bA c1)), (.int (bB c1)), (.int (bA c2)), (.int (bB c2))] (.int (0 : Int32))
set_option maxRecDepth 65536 in
set_option maxHeartbeats 40000000 in
theorem rmtb3 (l : Launch) (Z : State) (a0 : Array Value) (hw : ∀ d ∈ tables_1, d.before a0 Z = true) (ws : List Jvm.Cond) (a : Addr) (kC : ClassId) (c0 c1 c2 : Int32) (GA : Int32) (GB : Value) (h0 : Heap) (n0 : Nat) (Z0 : n0 ≤ h0.size) (SS : own_St Z GA GB) (X00 : Old Z n0 h0) (AC : Arv Z h0 a kC .char (3 : Int32) [(.int c0), (.int c1), (.int c2)] (.int (0 : Int32))) :
    MetFree l (⟨"java/lang/StringUTF16", "toBytes", "([CII)[B"⟩ : MethodName) (head1 (Jvm.Cond.code (⟨"java/lang/StringUTF16", "toBytes", "([CII)[B"⟩ : MethodName) jdk_52_method_14_code 5 (some (.array .byte)) :: ws) ({ frames := 2, cells := 1, slots := 6, locals := 26 } : Room)) (fun aa U => aa = #[(.ref a), (.int (0 : Int32)), (.int (3 : Int32))] ∧ Z.Warmed39 U.vm ∧ U.heap = h0) (fun _ _ _ _ _ => True) (fun _ U oo U' => ∃ vv LL, oo = .returned vv ∧ Qtb3 Z a kC c0 c1 c2 GA GB h0 n0 vv U'.heap LL ∧ FrameEnd U oo U' LL ({ frames := 2, cells := 1, slots := 6, locals := 26 } : Room).cells ({ frames := 2, cells := 1, slots := 6, locals := 26 } : Room).slots) := by
  refine MetFree.of_bodySF (plainFor_of_name pn_19) hisR ?_
  intro p e s m args below meth c s₁ Bd hml0 hP hK
  obtain ⟨rfl, hZ, hh⟩ := hP
  have hx := Bd.exec
  have hby := Bd.bytes
  have hml : c.maxLocals = 5 := hml0
  have hown : s.vm.findClass "java/lang/StringUTF16" = some m.cls := findClass_of_methodNamed Bd.named
  have hnm := (name_of_methodNamed Bd.named Bd.method).1
  have X0 : Stand p l e ({ frames := 2, cells := 1, slots := 6, locals := 26 } : Room) s m #[(.ref a), (.int (0 : Int32)), (.int (3 : Int32))] below meth c s₁ [] 0 0 := Stand.of_body Bd
  have e0 : s₁.heap = h0 := by rw [← hh, Bd.state]; rfl
  have N0 := Fr.nil n0
  show Goes p e below _ (s₁.setTop (entryFrame m #[(.ref a), (.int (0 : Int32)), (.int (3 : Int32))] 5))
  refine Goes.on (B := s₁.setTop (mkF m 0 #[.val (.ref a), .val (.int (0 : Int32)), .val (.int (3 : Int32)), .unset, .unset] [])) (fun t k => castTop (ef_tb3 m a (0 : Int32) (3 : Int32)) k) ?_
  refine Goes.on (B := s₁.setTop (mkF m 1 #[.val (.ref a), .val (.int (0 : Int32)), .val (.int (3 : Int32)), .unset, .unset] [(.int (3 : Int32))])) (fun _ k => XS.iloadN X0.here hx rfl (hb hby d19_0) rfl  k) ?_
  obtain ⟨_, _, ⟨T1, L1, k1, n1⟩, -, X1, ⟨Lc1, hQ1, l1, y1, z1⟩, st1⟩ := Jvm.LawKit.callS X0 hx (y := (⟨"java/lang/StringUTF16", "newBytesFor", "(I)[B"⟩ : MethodName)) hown (mvT hZ (hw _ (om 93 rfl))) (mvT hZ (hw _ (om 94 rfl))) (mvT hZ (hw _ (om 51 rfl))) (mvT hZ (hw _ (om 95 rfl))) (by decide) (backOf (W := 0) (rmnf3 l Z a0 hw []  h0 n0 Z0 X00) hZ (hw _ (om 95 rfl)) (hw _ (om 51 rfl)) (by decide) (by decide)) (g := (mkF m 1 #[.val (.ref a), .val (.int (0 : Int32)), .val (.int (3 : Int32)), .unset, .unset] [(.int (3 : Int32))])) rfl (by rw [hml]; rfl) (argsL := [(.int (3 : Int32))]) (rest := []) (lenOf pd_19__I__B rfl) rfl (by show 2 * 0 + _ ≤ _; exact Nat.le_of_eq rfl) (hb hby d19_1) (fun _ _ => ⟨rfl, e0, (by decide : 0 + 1 ≤ _), (by decide : 0 + 6 ≤ _)⟩)
  dsimp only [Pt.U, Pt.locs, Pt.cells, Pt.slots] at X1 l1 y1 z1 st1 hQ1
  subst l1 y1 z1
  obtain ⟨b1, kb1, rfl, Nq1, Kq1, g_b1, sq_b1, Vq1⟩ := hQ1
  obtain ⟨h1, eh1⟩ : ∃ h, T1.heap = h := ⟨_, rfl⟩
  rw [eh1] at Kq1 Vq1
  have ne_a_b1 : a ≠ b1 := Nat.ne_of_lt (Nat.lt_of_lt_of_le AC.lt sq_b1)
  have f2 := X00.keep Kq1 (all0)
  have f3 := AC.keep Kq1 nin0
  have z4 : n0 ≤ h1.size := Nat.le_trans Z0 Kq1.1
  have K5 : Keep h0 h1 [] := (Keep.refl h0 []).trans Kq1 all0
  have sz_b1 : h0.size ≤ b1 := Nat.le_trans (Keep.refl h0 []).1 sq_b1
  have N1 := Fr.app N0 Nq1
  refine Goes.on (B := T1.setTop (mkF m 4 #[.val (.ref a), .val (.int (0 : Int32)), .val (.int (3 : Int32)), .unset, .unset] [(.ref b1)])) (fun t k => st1 t k) ?_
  refine Goes.on (B := T1.setTop (mkF m 17 #[.val (.ref a), .val (.int (0 : Int32)), .val (.int (3 : Int32)), .val (.ref b1), .val (.int (0 : Int32))] [(.int (0 : Int32)), (.ref b1)])) (fun _ k => XS.astoreN X1.here hx rfl (hb hby d19_4) rfl rfl (l' := #[.val (.ref a), .val (.int (0 : Int32)), .val (.int (3 : Int32)), .val (.ref b1), .unset]) rfl (XS.iconst X1.here hx rfl (hb hby d19_5) (XS.istore X1.here hx rfl (hb hby d19_6) rfl (l' := #[.val (.ref a), .val (.int (0 : Int32)), .val (.int (3 : Int32)), .val (.ref b1), .val (.int (0 : Int32))]) rfl (XS.iload X1.here hx rfl (hb hby d19_8) rfl  (XS.iloadN X1.here hx rfl (hb hby d19_10) rfl  (XS.icmpNo X1.here hx rfl (hb hby d19_11) rfl (tlt (by decide)).2.1 (XS.aloadN X1.here hx rfl (hb hby d19_14) rfl rfl  (XS.iload X1.here hx rfl (hb hby d19_15) rfl  k)))))))) ?_
  refine Goes.on (B := T1.setTop (mkF m 19 #[.val (.ref a), .val (.int (0 : Int32)), .val (.int (3 : Int32)), .val (.ref b1), .val (.int (0 : Int32))] [(.int (0 : Int32)), (.ref a), (.int (0 : Int32)), (.ref b1)])) (fun _ k => XS.aloadN X1.here hx rfl (hb hby d19_17) rfl rfl  (XS.iloadN X1.here hx rfl (hb hby d19_18) rfl  k)) ?_
  obtain ⟨cl6, Ar6, q6, S6, Nn6, H6, G6⟩ := id f3
  have hin6 : ¬ ((0 : Int32) < 0 ∨ cl6.slots.size ≤ ((0 : Int32)).toNatClampNeg) := inb_of S6 ⟨by decide, by decide⟩
  refine Goes.on (B := T1.setTop (mkF m 20 #[.val (.ref a), .val (.int (0 : Int32)), .val (.int (3 : Int32)), .val (.ref b1), .val (.int (0 : Int32))] [(.int c0), (.int (0 : Int32)), (.ref b1)])) (fun _ k => X1.caload hx (j := (0 : Int32)) (v := (.int c0)) (by rw [eh1]; exact Ar6.1) (State.isArrayOf_alike hZ.alike Ar6.2.1) Ar6.2.2 hin6 (H6.at hin6 rfl) (g := (mkF m 19 #[.val (.ref a), .val (.int (0 : Int32)), .val (.int (3 : Int32)), .val (.ref b1), .val (.int (0 : Int32))] [(.int (0 : Int32)), (.ref a), (.int (0 : Int32)), (.ref b1)])) rfl rfl (hb hby d19_19) _ k) ?_
  obtain ⟨_, _, ⟨T7, L7, k7, n7⟩, -, X7, ⟨Lc7, hQ7, l7, y7, z7⟩, st7⟩ := Jvm.LawKit.callS X1 hx (y := (⟨"java/lang/StringUTF16", "putChar", "([BII)V"⟩ : MethodName)) hown (mvT hZ (hw _ (om 100 rfl))) (mvT hZ (hw _ (om 101 rfl))) (mvT hZ (hw _ (om 51 rfl))) (mvT hZ (hw _ (om 102 rfl))) (by decide) (backOf (W := 0) (rmpc l Z a0 hw [] b1 (0 : Int32) c0 kb1 (6 : Int32) [(.int (0 : Int32)), (.int (0 : Int32)), (.int (0 : Int32)), (.int (0 : Int32)), (.int (0 : Int32)), (.int (0 : Int32))] GA GB h1 n0 z4 SS f2 Vq1 g_b1 ⟨by decide, by decide⟩ ⟨by decide, by decide⟩ (by first | decide | (simp only [List.length_cons, List.length_nil]; decide)) (by first | decide | (simp only [List.length_cons, List.length_nil]; decide))) hZ (hw _ (om 102 rfl)) (hw _ (om 51 rfl)) (by decide) (by decide)) (g := (mkF m 20 #[.val (.ref a), .val (.int (0 : Int32)), .val (.int (3 : Int32)), .val (.ref b1), .val (.int (0 : Int32))] [(.int c0), (.int (0 : Int32)), (.ref b1)])) rfl (by rw [hml]; rfl) (argsL := [(.ref b1), (.int (0 : Int32)), (.int c0)]) (rest := []) (lenOf pd_19___BII_V rfl) rfl (by show 2 * 0 + _ ≤ _; exact Nat.le_of_eq rfl) (hb hby d19_20) (fun _ _ => ⟨rfl, eh1, (by decide : 1 + 0 ≤ _), (by decide : 6 + 0 ≤ _)⟩)
  dsimp only [Pt.U, Pt.locs, Pt.cells, Pt.slots] at X7 l7 y7 z7 st7 hQ7
  subst l7 y7 z7
  obtain ⟨rfl, Nq7, Kq7, Vp7⟩ := hQ7
  obtain ⟨h7, eh7⟩ : ∃ h, T7.heap = h := ⟨_, rfl⟩
  rw [eh7] at Kq7 Vp7
  have f8 := f2.keep Kq7 (allS g_b1 all0)
  have f9 := f3.keep Kq7 (ninS ne_a_b1 nin0)
  have z10 : n0 ≤ h7.size := Nat.le_trans z4 Kq7.1
  have K11 : Keep h0 h7 [] := K5.trans Kq7 (allS (Or.inr sz_b1) all0)
  have Vq7 : Arv Z h7 b1 kb1 .byte (6 : Int32) [(.int (bA c0)), (.int (bB c0)), (.int (0 : Int32)), (.int (0 : Int32)), (.int (0 : Int32)), (.int (0 : Int32))] (.int (0 : Int32)) := Vp7
  have N7 := Fr.app N1 Nq7
  refine Goes.on (B := T7.setTop (mkF m 23 #[.val (.ref a), .val (.int (0 : Int32)), .val (.int (3 : Int32)), .val (.ref b1), .val (.int (0 : Int32))] [])) (fun t k => st7 t k) ?_
  refine Goes.on (B := T7.setTop (mkF m 17 #[.val (.ref a), .val (.int (1 : Int32)), .val (.int (3 : Int32)), .val (.ref b1), .val (.int (1 : Int32))] [(.int (1 : Int32)), (.ref b1)])) (fun _ k => XS.iinc X7.here hx rfl (hb hby d19_23) rfl (l' := #[.val (.ref a), .val (.int (1 : Int32)), .val (.int (3 : Int32)), .val (.ref b1), .val (.int (0 : Int32))]) rfl (XS.iinc X7.here hx rfl (hb hby d19_26) rfl (l' := #[.val (.ref a), .val (.int (1 : Int32)), .val (.int (3 : Int32)), .val (.ref b1), .val (.int (1 : Int32))]) rfl (XS.goto X7.here hx rfl (pc0 := 29) (pc' := 8) rfl (hb hby d19_29) (by decide) (by decide) (XS.iload X7.here hx rfl (hb hby d19_8) rfl  (XS.iloadN X7.here hx rfl (hb hby d19_10) rfl  (XS.icmpNo X7.here hx rfl (hb hby d19_11) rfl (tlt (by decide)).2.1 (XS.aloadN X7.here hx rfl (hb hby d19_14) rfl rfl  (XS.iload X7.here hx rfl (hb hby d19_15) rfl  k)))))))) ?_
  refine Goes.on (B := T7.setTop (mkF m 19 #[.val (.ref a), .val (.int (1 : Int32)), .val (.int (3 : Int32)), .val (.ref b1), .val (.int (1 : Int32))] [(.int (1 : Int32)), (.ref a), (.int (1 : Int32)), (.ref b1)])) (fun _ k => XS.aloadN X7.here hx rfl (hb hby d19_17) rfl rfl  (XS.iloadN X7.here hx rfl (hb hby d19_18) rfl  k)) ?_
  obtain ⟨cl12, Ar12, q12, S12, Nn12, H12, G12⟩ := id f9
  have hin12 : ¬ ((1 : Int32) < 0 ∨ cl12.slots.size ≤ ((1 : Int32)).toNatClampNeg) := inb_of S12 ⟨by decide, by decide⟩
  refine Goes.on (B := T7.setTop (mkF m 20 #[.val (.ref a), .val (.int (1 : Int32)), .val (.int (3 : Int32)), .val (.ref b1), .val (.int (1 : Int32))] [(.int c1), (.int (1 : Int32)), (.ref b1)])) (fun _ k => X7.caload hx (j := (1 : Int32)) (v := (.int c1)) (by rw [eh7]; exact Ar12.1) (State.isArrayOf_alike hZ.alike Ar12.2.1) Ar12.2.2 hin12 (H12.at hin12 rfl) (g := (mkF m 19 #[.val (.ref a), .val (.int (1 : Int32)), .val (.int (3 : Int32)), .val (.ref b1), .val (.int (1 : Int32))] [(.int (1 : Int32)), (.ref a), (.int (1 : Int32)), (.ref b1)])) rfl rfl (hb hby d19_19) _ k) ?_
  obtain ⟨_, _, ⟨T13, L13, k13, n13⟩, -, X13, ⟨Lc13, hQ13, l13, y13, z13⟩, st13⟩ := Jvm.LawKit.callS X7 hx (y := (⟨"java/lang/StringUTF16", "putChar", "([BII)V"⟩ : MethodName)) hown (mvT hZ (hw _ (om 100 rfl))) (mvT hZ (hw _ (om 101 rfl))) (mvT hZ (hw _ (om 51 rfl))) (mvT hZ (hw _ (om 102 rfl))) (by decide) (backOf (W := 0) (rmpc l Z a0 hw [] b1 (1 : Int32) c1 kb1 (6 : Int32) [(.int (bA c0)), (.int (bB c0)), (.int (0 : Int32)), (.int (0 : Int32)), (.int (0 : Int32)), (.int (0 : Int32))] GA GB h7 n0 z10 SS f8 Vq7 g_b1 ⟨by decide, by decide⟩ ⟨by decide, by decide⟩ (by first | decide | (simp only [List.length_cons, List.length_nil]; decide)) (by first | decide | (simp only [List.length_cons, List.length_nil]; decide))) hZ (hw _ (om 102 rfl)) (hw _ (om 51 rfl)) (by decide) (by decide)) (g := (mkF m 20 #[.val (.ref a), .val (.int (1 : Int32)), .val (.int (3 : Int32)), .val (.ref b1), .val (.int (1 : Int32))] [(.int c1), (.int (1 : Int32)), (.ref b1)])) rfl (by rw [hml]; rfl) (argsL := [(.ref b1), (.int (1 : Int32)), (.int c1)]) (rest := []) (lenOf pd_19___BII_V rfl) rfl (by show 2 * 0 + _ ≤ _; exact Nat.le_of_eq rfl) (hb hby d19_20) (fun _ _ => ⟨rfl, eh7, (by decide : 1 + 0 ≤ _), (by decide : 6 + 0 ≤ _)⟩)
  dsimp only [Pt.U, Pt.locs, Pt.cells, Pt.slots] at X13 l13 y13 z13 st13 hQ13
  subst l13 y13 z13
  obtain ⟨rfl, Nq13, Kq13, Vp13⟩ := hQ13
  obtain ⟨h13, eh13⟩ : ∃ h, T13.heap = h := ⟨_, rfl⟩
  rw [eh13] at Kq13 Vp13
  have f14 := f8.keep Kq13 (allS g_b1 all0)
  have f15 := f9.keep Kq13 (ninS ne_a_b1 nin0)
  have z16 : n0 ≤ h13.size := Nat.le_trans z10 Kq13.1
  have K17 : Keep h0 h13 [] := K11.trans Kq13 (allS (Or.inr sz_b1) all0)
  have Vq13 : Arv Z h13 b1 kb1 .byte (6 : Int32) [(.int (bA c0)), (.int (bB c0)), (.int (bA c1)), (.int (bB c1)), (.int (0 : Int32)), (.int (0 : Int32))] (.int (0 : Int32)) := Vp13
  have N13 := Fr.app N7 Nq13
  refine Goes.on (B := T13.setTop (mkF m 23 #[.val (.ref a), .val (.int (1 : Int32)), .val (.int (3 : Int32)), .val (.ref b1), .val (.int (1 : Int32))] [])) (fun t k => st13 t k) ?_
  refine Goes.on (B := T13.setTop (mkF m 17 #[.val (.ref a), .val (.int (2 : Int32)), .val (.int (3 : Int32)), .val (.ref b1), .val (.int (2 : Int32))] [(.int (2 : Int32)), (.ref b1)])) (fun _ k => XS.iinc X13.here hx rfl (hb hby d19_23) rfl (l' := #[.val (.ref a), .val (.int (2 : Int32)), .val (.int (3 : Int32)), .val (.ref b1), .val (.int (1 : Int32))]) rfl (XS.iinc X13.here hx rfl (hb hby d19_26) rfl (l' := #[.val (.ref a), .val (.int (2 : Int32)), .val (.int (3 : Int32)), .val (.ref b1), .val (.int (2 : Int32))]) rfl (XS.goto X13.here hx rfl (pc0 := 29) (pc' := 8) rfl (hb hby d19_29) (by decide) (by decide) (XS.iload X13.here hx rfl (hb hby d19_8) rfl  (XS.iloadN X13.here hx rfl (hb hby d19_10) rfl  (XS.icmpNo X13.here hx rfl (hb hby d19_11) rfl (tlt (by decide)).2.1 (XS.aloadN X13.here hx rfl (hb hby d19_14) rfl rfl  (XS.iload X13.here hx rfl (hb hby d19_15) rfl  k)))))))) ?_
  refine Goes.on (B := T13.setTop (mkF m 19 #[.val (.ref a), .val (.int (2 : Int32)), .val (.int (3 : Int32)), .val (.ref b1), .val (.int (2 : Int32))] [(.int (2 : Int32)), (.ref a), (.int (2 : Int32)), (.ref b1)])) (fun _ k => XS.aloadN X13.here hx rfl (hb hby d19_17) rfl rfl  (XS.iloadN X13.here hx rfl (hb hby d19_18) rfl  k)) ?_
  obtain ⟨cl18, Ar18, q18, S18, Nn18, H18, G18⟩ := id f15
  have hin18 : ¬ ((2 : Int32) < 0 ∨ cl18.slots.size ≤ ((2 : Int32)).toNatClampNeg) := inb_of S18 ⟨by decide, by decide⟩
  refine Goes.on (B := T13.setTop (mkF m 20 #[.val (.ref a), .val (.int (2 : Int32)), .val (.int (3 : Int32)), .val (.ref b1), .val (.int (2 : Int32))] [(.int c2), (.int (2 : Int32)), (.ref b1)])) (fun _ k => X13.caload hx (j := (2 : Int32)) (v := (.int c2)) (by rw [eh13]; exact Ar18.1) (State.isArrayOf_alike hZ.alike Ar18.2.1) Ar18.2.2 hin18 (H18.at hin18 rfl) (g := (mkF m 19 #[.val (.ref a), .val (.int (2 : Int32)), .val (.int (3 : Int32)), .val (.ref b1), .val (.int (2 : Int32))] [(.int (2 : Int32)), (.ref a), (.int (2 : Int32)), (.ref b1)])) rfl rfl (hb hby d19_19) _ k) ?_
  obtain ⟨_, _, ⟨T19, L19, k19, n19⟩, -, X19, ⟨Lc19, hQ19, l19, y19, z19⟩, st19⟩ := Jvm.LawKit.callS X13 hx (y := (⟨"java/lang/StringUTF16", "putChar", "([BII)V"⟩ : MethodName)) hown (mvT hZ (hw _ (om 100 rfl))) (mvT hZ (hw _ (om 101 rfl))) (mvT hZ (hw _ (om 51 rfl))) (mvT hZ (hw _ (om 102 rfl))) (by decide) (backOf (W := 0) (rmpc l Z a0 hw [] b1 (2 : Int32) c2 kb1 (6 : Int32) [(.int (bA c0)), (.int (bB c0)), (.int (bA c1)), (.int (bB c1)), (.int (0 : Int32)), (.int (0 : Int32))] GA GB h13 n0 z16 SS f14 Vq13 g_b1 ⟨by decide, by decide⟩ ⟨by decide, by decide⟩ (by first | decide | (simp only [List.length_cons, List.length_nil]; decide)) (by first | decide | (simp only [List.length_cons, List.length_nil]; decide))) hZ (hw _ (om 102 rfl)) (hw _ (om 51 rfl)) (by decide) (by decide)) (g := (mkF m 20 #[.val (.ref a), .val (.int (2 : Int32)), .val (.int (3 : Int32)), .val (.ref b1), .val (.int (2 : Int32))] [(.int c2), (.int (2 : Int32)), (.ref b1)])) rfl (by rw [hml]; rfl) (argsL := [(.ref b1), (.int (2 : Int32)), (.int c2)]) (rest := []) (lenOf pd_19___BII_V rfl) rfl (by show 2 * 0 + _ ≤ _; exact Nat.le_of_eq rfl) (hb hby d19_20) (fun _ _ => ⟨rfl, eh13, (by decide : 1 + 0 ≤ _), (by decide : 6 + 0 ≤ _)⟩)
  dsimp only [Pt.U, Pt.locs, Pt.cells, Pt.slots] at X19 l19 y19 z19 st19 hQ19
  subst l19 y19 z19
  obtain ⟨rfl, Nq19, Kq19, Vp19⟩ := hQ19
  obtain ⟨h19, eh19⟩ : ∃ h, T19.heap = h := ⟨_, rfl⟩
  rw [eh19] at Kq19 Vp19
  have f20 := f14.keep Kq19 (allS g_b1 all0)
  have f21 := f15.keep Kq19 (ninS ne_a_b1 nin0)
  have z22 : n0 ≤ h19.size := Nat.le_trans z16 Kq19.1
  have K23 : Keep h0 h19 [] := K17.trans Kq19 (allS (Or.inr sz_b1) all0)
  have Vq19 : Arv Z h19 b1 kb1 .byte (6 : Int32) [(.int (bA c0)), (.int (bB c0)), (.int (bA c1)), (.int (bB c1)), (.int (bA c2)), (.int (bB c2))] (.int (0 : Int32)) := Vp19
  have N19 := Fr.app N13 Nq19
  refine Goes.on (B := T19.setTop (mkF m 23 #[.val (.ref a), .val (.int (2 : Int32)), .val (.int (3 : Int32)), .val (.ref b1), .val (.int (2 : Int32))] [])) (fun t k => st19 t k) ?_
  refine Goes.on (B := T19.setTop (mkF m 33 #[.val (.ref a), .val (.int (3 : Int32)), .val (.int (3 : Int32)), .val (.ref b1), .val (.int (3 : Int32))] [(.ref b1)])) (fun _ k => XS.iinc X19.here hx rfl (hb hby d19_23) rfl (l' := #[.val (.ref a), .val (.int (3 : Int32)), .val (.int (3 : Int32)), .val (.ref b1), .val (.int (2 : Int32))]) rfl (XS.iinc X19.here hx rfl (hb hby d19_26) rfl (l' := #[.val (.ref a), .val (.int (3 : Int32)), .val (.int (3 : Int32)), .val (.ref b1), .val (.int (3 : Int32))]) rfl (XS.goto X19.here hx rfl (pc0 := 29) (pc' := 8) rfl (hb hby d19_29) (by decide) (by decide) (XS.iload X19.here hx rfl (hb hby d19_8) rfl  (XS.iloadN X19.here hx rfl (hb hby d19_10) rfl  (XS.icmpYes X19.here hx rfl (pc0 := 11) (pc' := 32) rfl (hb hby d19_11) rfl (flt (by decide)).2.1 (by decide) (by decide) (XS.aloadN X19.here hx rfl (hb hby d19_32) rfl rfl  k))))))) ?_
  obtain ⟨fs, hr, hrun, hended, hW, hsame⟩ := X19.leave (v := some (.ref b1)) (fun h => by rw [Bd.returns] at h; cases h)
  exact Goes.leaf (own_retR X19 hx Bd.returns rfl rfl (hb hby d19_33) hr) hrun hended ⟨_, _, rfl, by show Qtb3 Z a kC c0 c1 c2 GA GB h0 n0 _ T19.heap _; rw [eh19]; exact ⟨b1, _, rfl, N19, K23, g_b1, sz_b1, Vq19⟩, ⟨_, rfl⟩, hW, hsame.mono (by decide) (by decide)⟩
theorem ef_cI3 (m : MethodId) (x0 : Addr) (x1 : Int32) (x2 : Addr) (x3 : Int32) (x4 : Int32) : entryFrame m #[(.ref x0), (.int x1), (.ref x2), (.int x3), (.int x4)] 7 = mkF m 0 #[.val (.ref x0), .val (.int x1), .val (.ref x2), .val (.int x3), .val (.int x4), .unset, .unset] [] := by first | (simp [entryFrame, mkF, argsToLocals, Value.category]; done) | rfl
def QcI3 (Z : State) (a : Addr) (b : Addr) (kC kB : ClassId) (c0 c1 c2 : Int32) (h0 : Heap) (n0 : Nat) (v : Option Value) (h : Heap) (L : List Loc) : Prop := ∃ (ii y : Int32), v = some (.int ii) ∧ Fr n0 L ∧ Keep h0 h [b] ∧ ¬ ii = (3 : Int32) ∧ (255 : Int32) < y ∧ own_rg y ∧ (¬ (ii <<< ((1 : Int32) &&& 31)) < 0 ∧ (ii <<< ((1 : Int32) &&& 31)) < (6 : Int32)) ∧ (¬ ((ii <<< ((1 : Int32) &&& 31)) + (1 : Int32)) < 0 ∧ ((ii <<< ((1 : Int32) &&& 31)) + (1 : Int32)) < (6 : Int32)) ∧ ([(.int (bA c0)), (.int (bB c0)), (.int (bA c1)), (.int (bB c1)), (.int (bA c2)), (.int (bB c2))] : List Value).getD ((ii <<< ((1 : Int32) &&& 31))).toNatClampNeg (.int (0 : Int32)) = (.int (bA y)) ∧ ([(.int (bA c0)), (.int (bB c0)), (.int (bA c1)), (.int (bB c1)), (.int (bA c2)), (.int (bB c2))] : List Value).getD (((ii <<< ((1 : Int32) &&& 31)) + (1 : Int32))).toNatClampNeg (.int (0 : Int32)) = (.int (bB y))
set_option maxRecDepth 65536 in
set_option maxHeartbeats 40000000 in
theorem rmcI3 (l : Launch) (Z : State) (a0 : Array Value) (hw : ∀ d ∈ tables_1, d.before a0 Z = true) (ws : List Jvm.Cond) (a : Addr) (b : Addr) (kC kB : ClassId) (c0 c1 c2 : Int32) (h0 : Heap) (n0 : Nat) (Z0 : n0 ≤ h0.size) (X00 : Old Z n0 h0) (AC : Arv Z h0 a kC .char (3 : Int32) [(.int c0), (.int c1), (.int c2)] (.int (0 : Int32))) (AB : Arv Z h0 b kB .byte (3 : Int32) [(.int (0 : Int32)), (.int (0 : Int32)), (.int (0 : Int32))] (.int (0 : Int32))) (gb : n0 ≤ b) (nab : a ≠ b) (r0 : own_rg c0) (r1 : own_rg c1) (r2 : own_rg c2) (hwd : ¬ (¬ (255 : Int32) < c0 ∧ ¬ (255 : Int32) < c1 ∧ ¬ (255 : Int32) < c2)) :
    MetFree l (⟨"java/lang/StringUTF16", "compress", "([CI[BII)I"⟩ : MethodName) (head1 (Jvm.Cond.code (⟨"java/lang/StringUTF16", "compress", "([CI[BII)I"⟩ : MethodName) jdk_52_method_21_code 7 (some .int) :: ws) ({ frames := 0, cells := 0, slots := 0, locals := 0 } : Room)) (fun aa U => aa = #[(.ref a), (.int (0 : Int32)), (.ref b), (.int (0 : Int32)), (.int (3 : Int32))] ∧ Z.Warmed39 U.vm ∧ U.heap = h0) (fun _ _ _ _ _ => True) (fun _ U oo U' => ∃ vv LL, oo = .returned vv ∧ QcI3 Z a b kC kB c0 c1 c2 h0 n0 vv U'.heap LL ∧ FrameEnd U oo U' LL ({ frames := 0, cells := 0, slots := 0, locals := 0 } : Room).cells ({ frames := 0, cells := 0, slots := 0, locals := 0 } : Room).slots) := by
  refine MetFree.of_bodySF (plainFor_of_name pn_10) hisR ?_
  intro p e s m args below meth c s₁ Bd hml0 hP hK
  obtain ⟨rfl, hZ, hh⟩ := hP
  have hx := Bd.exec
  have hby := Bd.bytes
  have hml : c.maxLocals = 7 := hml0
  have hown : s.vm.findClass "java/lang/StringUTF16" = some m.cls := findClass_of_methodNamed Bd.named
  have hnm := (name_of_methodNamed Bd.named Bd.method).1
  have X0 : Stand p l e ({ frames := 0, cells := 0, slots := 0, locals := 0 } : Room) s m #[(.ref a), (.int (0 : Int32)), (.ref b), (.int (0 : Int32)), (.int (3 : Int32))] below meth c s₁ [] 0 0 := Stand.of_body Bd
  have e0 : s₁.heap = h0 := by rw [← hh, Bd.state]; rfl
  have N0 := Fr.nil n0
  show Goes p e below _ (s₁.setTop (entryFrame m #[(.ref a), (.int (0 : Int32)), (.ref b), (.int (0 : Int32)), (.int (3 : Int32))] 7))
  refine Goes.on (B := s₁.setTop (mkF m 0 #[.val (.ref a), .val (.int (0 : Int32)), .val (.ref b), .val (.int (0 : Int32)), .val (.int (3 : Int32)), .unset, .unset] [])) (fun t k => castTop (ef_cI3 m a (0 : Int32) b (0 : Int32) (3 : Int32)) k) ?_
  refine Goes.on (B := s₁.setTop (mkF m 12 #[.val (.ref a), .val (.int (0 : Int32)), .val (.ref b), .val (.int (0 : Int32)), .val (.int (3 : Int32)), .val (.int (0 : Int32)), .unset] [(.int (0 : Int32)), (.ref a)])) (fun _ k => XS.iconst X0.here hx rfl (hb hby d10_0) (XS.istore X0.here hx rfl (hb hby d10_1) rfl (l' := #[.val (.ref a), .val (.int (0 : Int32)), .val (.ref b), .val (.int (0 : Int32)), .val (.int (3 : Int32)), .val (.int (0 : Int32)), .unset]) rfl (XS.iload X0.here hx rfl (hb hby d10_3) rfl  (XS.iload X0.here hx rfl (hb hby d10_5) rfl  (XS.icmpNo X0.here hx rfl (hb hby d10_7) rfl (tlt (by decide)).2.1 (XS.aloadN X0.here hx rfl (hb hby d10_10) rfl rfl  (XS.iloadN X0.here hx rfl (hb hby d10_11) rfl  k))))))) ?_
  obtain ⟨cl1, Ar1, q1, S1, Nn1, H1, G1⟩ := id AC
  have hin1 : ¬ ((0 : Int32) < 0 ∨ cl1.slots.size ≤ ((0 : Int32)).toNatClampNeg) := inb_of S1 ⟨by decide, by decide⟩
  refine Goes.on (B := s₁.setTop (mkF m 20 #[.val (.ref a), .val (.int (0 : Int32)), .val (.ref b), .val (.int (0 : Int32)), .val (.int (3 : Int32)), .val (.int (0 : Int32)), .val (.int c0)] [(.int (255 : Int32)), (.int c0)])) (fun _ k => X0.caload hx (j := (0 : Int32)) (v := (.int c0)) (by rw [e0]; exact Ar1.1) (State.isArrayOf_alike hZ.alike Ar1.2.1) Ar1.2.2 hin1 (H1.at hin1 rfl) (g := (mkF m 12 #[.val (.ref a), .val (.int (0 : Int32)), .val (.ref b), .val (.int (0 : Int32)), .val (.int (3 : Int32)), .val (.int (0 : Int32)), .unset] [(.int (0 : Int32)), (.ref a)])) rfl rfl (hb hby d10_12) _ (XS.istore X0.here hx rfl (hb hby d10_13) rfl (l' := #[.val (.ref a), .val (.int (0 : Int32)), .val (.ref b), .val (.int (0 : Int32)), .val (.int (3 : Int32)), .val (.int (0 : Int32)), .val (.int c0)]) rfl (XS.iload X0.here hx rfl (hb hby d10_15) rfl  (XS.sipush X0.here hx rfl (hb hby d10_17) k)))) ?_
  by_cases g0 : (255 : Int32) < c0
  · refine Goes.on (B := s₁.setTop (mkF m 25 #[.val (.ref a), .val (.int (0 : Int32)), .val (.ref b), .val (.int (0 : Int32)), .val (.int (3 : Int32)), .val (.int (0 : Int32)), .val (.int c0)] [(.int (0 : Int32))])) (fun _ k => XS.icmpNo X0.here hx rfl (hb hby d10_20) rfl (tlt g0).2.2.2 (XS.iload X0.here hx rfl (hb hby d10_23) rfl  k)) ?_
    obtain ⟨fs, hr, hrun, hended, hW, hsame⟩ := X0.leave (v := some (.int (0 : Int32))) (fun h => by rw [Bd.returns] at h; cases h)
    exact Goes.leaf (own_retI X0 hx Bd.returns (hb hby d10_25) hr) hrun hended ⟨_, _, rfl, by show QcI3 Z a b kC kB c0 c1 c2 h0 n0 _ s₁.heap _; rw [e0]; exact ⟨(0 : Int32), c0, rfl, N0, (Keep.refl h0 [b]), by decide, g0, r0, ⟨by decide, by decide⟩, ⟨by decide, by decide⟩, rfl, rfl⟩, ⟨_, rfl⟩, hW, hsame.mono (by decide) (by decide)⟩
  · refine Goes.on (B := s₁.setTop (mkF m 31 #[.val (.ref a), .val (.int (0 : Int32)), .val (.ref b), .val (.int (0 : Int32)), .val (.int (3 : Int32)), .val (.int (0 : Int32)), .val (.int c0)] [(.int (c0.toInt8.toInt32)), (.int (0 : Int32)), (.ref b)])) (fun _ k => XS.icmpYes X0.here hx rfl (pc0 := 20) (pc' := 26) rfl (hb hby d10_20) rfl (flt g0).2.2.2 (by decide) (by decide) (XS.aloadN X0.here hx rfl (hb hby d10_26) rfl rfl  (XS.iloadN X0.here hx rfl (hb hby d10_27) rfl  (XS.iload X0.here hx rfl (hb hby d10_28) rfl  (XS.i2b X0.here hx rfl (hb hby d10_30) rfl k))))) ?_
    obtain ⟨cl2, Ar2, q2, S2, Nn2, H2, G2⟩ := id AB
    have hin2 : ¬ ((0 : Int32) < 0 ∨ cl2.slots.size ≤ ((0 : Int32)).toNatClampNeg) := inb_of S2 ⟨by decide, by decide⟩
    obtain ⟨T3, h3, X3, e3, W3, st3⟩ := stB X0 hx hZ e0 Ar2 (j := (0 : Int32)) hin2 (g := (mkF m 31 #[.val (.ref a), .val (.int (0 : Int32)), .val (.ref b), .val (.int (0 : Int32)), .val (.int (3 : Int32)), .val (.int (0 : Int32)), .val (.int c0)] [(.int (c0.toInt8.toInt32)), (.int (0 : Int32)), (.ref b)])) rfl rfl (hb hby d10_31)
    have V3 : Arv Z h3 b kB .byte (3 : Int32) [(.int (nar .byte (c0.toInt8.toInt32))), (.int (0 : Int32)), (.int (0 : Int32))] (.int (0 : Int32)) := Arv.set Ar2 q2 S2 Nn2 H2 G2 (fits_nar_byte _) W3 0 rfl (Nat.le_of_ble_eq_true rfl)
    have f4 := X00.wr W3 gb
    have f5 := AC.other W3 nab
    have z6 : n0 ≤ h3.size := Nat.le_trans Z0 (Keep.of_wr W3).1
    have K7 : Keep h0 h3 [b] := (Keep.refl h0 [b]).wr W3 (Or.inl (om 0 rfl))
    have N3 := Fr.snoc X3 N0 gb
    refine Goes.on (B := T3.setTop (mkF m 32 #[.val (.ref a), .val (.int (0 : Int32)), .val (.ref b), .val (.int (0 : Int32)), .val (.int (3 : Int32)), .val (.int (0 : Int32)), .val (.int c0)] [])) (fun t k => st3 t k) ?_
    refine Goes.on (B := T3.setTop (mkF m 11 #[.val (.ref a), .val (.int (1 : Int32)), .val (.ref b), .val (.int (1 : Int32)), .val (.int (3 : Int32)), .val (.int (1 : Int32)), .val (.int c0)] [(.ref a)])) (fun _ k => XS.iinc X3.here hx rfl (hb hby d10_32) rfl (l' := #[.val (.ref a), .val (.int (1 : Int32)), .val (.ref b), .val (.int (0 : Int32)), .val (.int (3 : Int32)), .val (.int (0 : Int32)), .val (.int c0)]) rfl (XS.iinc X3.here hx rfl (hb hby d10_35) rfl (l' := #[.val (.ref a), .val (.int (1 : Int32)), .val (.ref b), .val (.int (1 : Int32)), .val (.int (3 : Int32)), .val (.int (0 : Int32)), .val (.int c0)]) rfl (XS.iinc X3.here hx rfl (hb hby d10_38) rfl (l' := #[.val (.ref a), .val (.int (1 : Int32)), .val (.ref b), .val (.int (1 : Int32)), .val (.int (3 : Int32)), .val (.int (1 : Int32)), .val (.int c0)]) rfl (XS.goto X3.here hx rfl (pc0 := 41) (pc' := 3) rfl (hb hby d10_41) (by decide) (by decide) (XS.iload X3.here hx rfl (hb hby d10_3) rfl  (XS.iload X3.here hx rfl (hb hby d10_5) rfl  (XS.icmpNo X3.here hx rfl (hb hby d10_7) rfl (tlt (by decide)).2.1 (XS.aloadN X3.here hx rfl (hb hby d10_10) rfl rfl  k)))))))) ?_
    refine Goes.on (B := T3.setTop (mkF m 12 #[.val (.ref a), .val (.int (1 : Int32)), .val (.ref b), .val (.int (1 : Int32)), .val (.int (3 : Int32)), .val (.int (1 : Int32)), .val (.int c0)] [(.int (1 : Int32)), (.ref a)])) (fun _ k => XS.iloadN X3.here hx rfl (hb hby d10_11) rfl  k) ?_
    obtain ⟨cl8, Ar8, q8, S8, Nn8, H8, G8⟩ := id f5
    have hin8 : ¬ ((1 : Int32) < 0 ∨ cl8.slots.size ≤ ((1 : Int32)).toNatClampNeg) := inb_of S8 ⟨by decide, by decide⟩
    refine Goes.on (B := T3.setTop (mkF m 20 #[.val (.ref a), .val (.int (1 : Int32)), .val (.ref b), .val (.int (1 : Int32)), .val (.int (3 : Int32)), .val (.int (1 : Int32)), .val (.int c1)] [(.int (255 : Int32)), (.int c1)])) (fun _ k => X3.caload hx (j := (1 : Int32)) (v := (.int c1)) (by rw [e3]; exact Ar8.1) (State.isArrayOf_alike hZ.alike Ar8.2.1) Ar8.2.2 hin8 (H8.at hin8 rfl) (g := (mkF m 12 #[.val (.ref a), .val (.int (1 : Int32)), .val (.ref b), .val (.int (1 : Int32)), .val (.int (3 : Int32)), .val (.int (1 : Int32)), .val (.int c0)] [(.int (1 : Int32)), (.ref a)])) rfl rfl (hb hby d10_12) _ (XS.istore X3.here hx rfl (hb hby d10_13) rfl (l' := #[.val (.ref a), .val (.int (1 : Int32)), .val (.ref b), .val (.int (1 : Int32)), .val (.int (3 : Int32)), .val (.int (1 : Int32)), .val (.int c1)]) rfl (XS.iload X3.here hx rfl (hb hby d10_15) rfl  (XS.sipush X3.here hx rfl (hb hby d10_17) k)))) ?_
    by_cases g1 : (255 : Int32) < c1
    · refine Goes.on (B := T3.setTop (mkF m 25 #[.val (.ref a), .val (.int (1 : Int32)), .val (.ref b), .val (.int (1 : Int32)), .val (.int (3 : Int32)), .val (.int (1 : Int32)), .val (.int c1)] [(.int (1 : Int32))])) (fun _ k => XS.icmpNo X3.here hx rfl (hb hby d10_20) rfl (tlt g1).2.2.2 (XS.iload X3.here hx rfl (hb hby d10_23) rfl  k)) ?_
      obtain ⟨fs, hr, hrun, hended, hW, hsame⟩ := X3.leave (v := some (.int (1 : Int32))) (fun h => by rw [Bd.returns] at h; cases h)
      exact Goes.leaf (own_retI X3 hx Bd.returns (hb hby d10_25) hr) hrun hended ⟨_, _, rfl, by show QcI3 Z a b kC kB c0 c1 c2 h0 n0 _ T3.heap _; rw [e3]; exact ⟨(1 : Int32), c1, rfl, N3, K7, by decide, g1, r1, ⟨by decide, by decide⟩, ⟨by decide, by decide⟩, rfl, rfl⟩, ⟨_, rfl⟩, hW, hsame.mono (by decide) (by decide)⟩
    · refine Goes.on (B := T3.setTop (mkF m 31 #[.val (.ref a), .val (.int (1 : Int32)), .val (.ref b), .val (.int (1 : Int32)), .val (.int (3 : Int32)), .val (.int (1 : Int32)), .val (.int c1)] [(.int (c1.toInt8.toInt32)), (.int (1 : Int32)), (.ref b)])) (fun _ k => XS.icmpYes X3.here hx rfl (pc0 := 20) (pc' := 26) rfl (hb hby d10_20) rfl (flt g1).2.2.2 (by decide) (by decide) (XS.aloadN X3.here hx rfl (hb hby d10_26) rfl rfl  (XS.iloadN X3.here hx rfl (hb hby d10_27) rfl  (XS.iload X3.here hx rfl (hb hby d10_28) rfl  (XS.i2b X3.here hx rfl (hb hby d10_30) rfl k))))) ?_
      obtain ⟨cl9, Ar9, q9, S9, Nn9, H9, G9⟩ := id V3
      have hin9 : ¬ ((1 : Int32) < 0 ∨ cl9.slots.size ≤ ((1 : Int32)).toNatClampNeg) := inb_of S9 ⟨by decide, by decide⟩
      obtain ⟨T10, h10, X10, e10, W10, st10⟩ := stB X3 hx hZ e3 Ar9 (j := (1 : Int32)) hin9 (g := (mkF m 31 #[.val (.ref a), .val (.int (1 : Int32)), .val (.ref b), .val (.int (1 : Int32)), .val (.int (3 : Int32)), .val (.int (1 : Int32)), .val (.int c1)] [(.int (c1.toInt8.toInt32)), (.int (1 : Int32)), (.ref b)])) rfl rfl (hb hby d10_31)
      have V10 : Arv Z h10 b kB .byte (3 : Int32) [(.int (nar .byte (c0.toInt8.toInt32))), (.int (nar .byte (c1.toInt8.toInt32))), (.int (0 : Int32))] (.int (0 : Int32)) := Arv.set Ar9 q9 S9 Nn9 H9 G9 (fits_nar_byte _) W10 1 rfl (Nat.le_of_ble_eq_true rfl)
      have f11 := f4.wr W10 gb
      have f12 := f5.other W10 nab
      have z13 : n0 ≤ h10.size := Nat.le_trans z6 (Keep.of_wr W10).1
      have K14 : Keep h0 h10 [b] := K7.wr W10 (Or.inl (om 0 rfl))
      have N10 := Fr.snoc X10 N3 gb
      refine Goes.on (B := T10.setTop (mkF m 32 #[.val (.ref a), .val (.int (1 : Int32)), .val (.ref b), .val (.int (1 : Int32)), .val (.int (3 : Int32)), .val (.int (1 : Int32)), .val (.int c1)] [])) (fun t k => st10 t k) ?_
      refine Goes.on (B := T10.setTop (mkF m 11 #[.val (.ref a), .val (.int (2 : Int32)), .val (.ref b), .val (.int (2 : Int32)), .val (.int (3 : Int32)), .val (.int (2 : Int32)), .val (.int c1)] [(.ref a)])) (fun _ k => XS.iinc X10.here hx rfl (hb hby d10_32) rfl (l' := #[.val (.ref a), .val (.int (2 : Int32)), .val (.ref b), .val (.int (1 : Int32)), .val (.int (3 : Int32)), .val (.int (1 : Int32)), .val (.int c1)]) rfl (XS.iinc X10.here hx rfl (hb hby d10_35) rfl (l' := #[.val (.ref a), .val (.int (2 : Int32)), .val (.ref b), .val (.int (2 : Int32)), .val (.int (3 : Int32)), .val (.int (1 : Int32)), .val (.int c1)]) rfl (XS.iinc X10.here hx rfl (hb hby d10_38) rfl (l' := #[.val (.ref a), .val (.int (2 : Int32)), .val (.ref b), .val (.int (2 : Int32)), .val (.int (3 : Int32)), .val (.int (2 : Int32)), .val (.int c1)]) rfl (XS.goto X10.here hx rfl (pc0 := 41) (pc' := 3) rfl (hb hby d10_41) (by decide) (by decide) (XS.iload X10.here hx rfl (hb hby d10_3) rfl  (XS.iload X10.here hx rfl (hb hby d10_5) rfl  (XS.icmpNo X10.here hx rfl (hb hby d10_7) rfl (tlt (by decide)).2.1 (XS.aloadN X10.here hx rfl (hb hby d10_10) rfl rfl  k)))))))) ?_
      refine Goes.on (B := T10.setTop (mkF m 12 #[.val (.ref a), .val (.int (2 : Int32)), .val (.ref b), .val (.int (2 : Int32)), .val (.int (3 : Int32)), .val (.int (2 : Int32)), .val (.int c1)] [(.int (2 : Int32)), (.ref a)])) (fun _ k => XS.iloadN X10.here hx rfl (hb hby d10_11) rfl  k) ?_
      obtain ⟨cl15, Ar15, q15, S15, Nn15, H15, G15⟩ := id f12
      have hin15 : ¬ ((2 : Int32) < 0 ∨ cl15.slots.size ≤ ((2 : Int32)).toNatClampNeg) := inb_of S15 ⟨by decide, by decide⟩
      refine Goes.on (B := T10.setTop (mkF m 20 #[.val (.ref a), .val (.int (2 : Int32)), .val (.ref b), .val (.int (2 : Int32)), .val (.int (3 : Int32)), .val (.int (2 : Int32)), .val (.int c2)] [(.int (255 : Int32)), (.int c2)])) (fun _ k => X10.caload hx (j := (2 : Int32)) (v := (.int c2)) (by rw [e10]; exact Ar15.1) (State.isArrayOf_alike hZ.alike Ar15.2.1) Ar15.2.2 hin15 (H15.at hin15 rfl) (g := (mkF m 12 #[.val (.ref a), .val (.int (2 : Int32)), .val (.ref b), .val (.int (2 : Int32)), .val (.int (3 : Int32)), .val (.int (2 : Int32)), .val (.int c1)] [(.int (2 : Int32)), (.ref a)])) rfl rfl (hb hby d10_12) _ (XS.istore X10.here hx rfl (hb hby d10_13) rfl (l' := #[.val (.ref a), .val (.int (2 : Int32)), .val (.ref b), .val (.int (2 : Int32)), .val (.int (3 : Int32)), .val (.int (2 : Int32)), .val (.int c2)]) rfl (XS.iload X10.here hx rfl (hb hby d10_15) rfl  (XS.sipush X10.here hx rfl (hb hby d10_17) k)))) ?_
      by_cases g2 : (255 : Int32) < c2
      · refine Goes.on (B := T10.setTop (mkF m 25 #[.val (.ref a), .val (.int (2 : Int32)), .val (.ref b), .val (.int (2 : Int32)), .val (.int (3 : Int32)), .val (.int (2 : Int32)), .val (.int c2)] [(.int (2 : Int32))])) (fun _ k => XS.icmpNo X10.here hx rfl (hb hby d10_20) rfl (tlt g2).2.2.2 (XS.iload X10.here hx rfl (hb hby d10_23) rfl  k)) ?_
        obtain ⟨fs, hr, hrun, hended, hW, hsame⟩ := X10.leave (v := some (.int (2 : Int32))) (fun h => by rw [Bd.returns] at h; cases h)
        exact Goes.leaf (own_retI X10 hx Bd.returns (hb hby d10_25) hr) hrun hended ⟨_, _, rfl, by show QcI3 Z a b kC kB c0 c1 c2 h0 n0 _ T10.heap _; rw [e10]; exact ⟨(2 : Int32), c2, rfl, N10, K14, by decide, g2, r2, ⟨by decide, by decide⟩, ⟨by decide, by decide⟩, rfl, rfl⟩, ⟨_, rfl⟩, hW, hsame.mono (by decide) (by decide)⟩
      · exact absurd ⟨g0, g1, g2⟩ hwd
theorem ef_cB3 (m : MethodId) (x0 : Addr) (x1 : Int32) (x2 : Int32) : entryFrame m #[(.ref x0), (.int x1), (.int x2)] 6 = mkF m 0 #[.val (.ref x0), .val (.int x1), .val (.int x2), .unset, .unset, .unset] [] := by first | (simp [entryFrame, mkF, argsToLocals, Value.category]; done) | rfl
def QcB3 (Z : State) (a : Addr) (kC : ClassId) (c0 c1 c2 : Int32) (GA : Int32) (GB : Value) (h0 : Heap) (n0 : Nat) (v : Option Value) (h : Heap) (L : List Loc) : Prop := ∃ (b : Addr) (kb : ClassId), v = some (.ref b) ∧ Fr n0 L ∧ Keep h0 h [] ∧ n0 ≤ b ∧ h0.size ≤ b ∧ Arv Z h b kb .byte (6 : Int32) [(.int (bA c0)), (.int (bB c0)), (.int (bA c1)), (.int (bB c1)), (.int (bA c2)), (.int (bB c2))] (.int (0 : Int32))
set_option maxRecDepth 65536 in
set_option maxHeartbeats 40000000 in
theorem rmcB3 (l : Launch) (Z : State) (a0 : Array Value) (hw : ∀ d ∈ tables_1, d.before a0 Z = true) (ws : List Jvm.Cond) (a : Addr) (kC : ClassId) (c0 c1 c2 : Int32) (GA : Int32) (GB : Value) (h0 : Heap) (n0 : Nat) (Z0 : n0 ≤ h0.size) (SS : own_St Z GA GB) (X00 : Old Z n0 h0) (AC : Arv Z h0 a kC .char (3 : Int32) [(.int c0), (.int c1), (.int c2)] (.int (0 : Int32))) (r0 : own_rg c0) (r1 : own_rg c1) (r2 : own_rg c2) (hwd : ¬ (¬ (255 : Int32) < c0 ∧ ¬ (255 : Int32) < c1 ∧ ¬ (255 : Int32) < c2)) :
    MetFree l (⟨"java/lang/StringUTF16", "compress", "([CII)[B"⟩ : MethodName) (head1 (Jvm.Cond.code (⟨"java/lang/StringUTF16", "compress", "([CII)[B"⟩ : MethodName) jdk_52_method_16_code 6 (some (.array .byte)) :: ws) ({ frames := 3, cells := 2, slots := 9, locals := 42 } : Room)) (fun aa U => aa = #[(.ref a), (.int (0 : Int32)), (.int (3 : Int32))] ∧ Z.Warmed39 U.vm ∧ U.heap = h0) (fun _ _ _ _ _ => True) (fun _ U oo U' => ∃ vv LL, oo = .returned vv ∧ QcB3 Z a kC c0 c1 c2 GA GB h0 n0 vv U'.heap LL ∧ FrameEnd U oo U' LL ({ frames := 3, cells := 2, slots := 9, locals := 42 } : Room).cells ({ frames := 3, cells := 2, slots := 9, locals := 42 } : Room).slots) := by
  refine MetFree.of_bodySF (plainFor_of_name pn_9) hisR ?_
  intro p e s m args below meth c s₁ Bd hml0 hP hK
  obtain ⟨rfl, hZ, hh⟩ := hP
  have hx := Bd.exec
  have hby := Bd.bytes
  have hml : c.maxLocals = 6 := hml0
  have hown : s.vm.findClass "java/lang/StringUTF16" = some m.cls := findClass_of_methodNamed Bd.named
  have hnm := (name_of_methodNamed Bd.named Bd.method).1
  have X0 : Stand p l e ({ frames := 3, cells := 2, slots := 9, locals := 42 } : Room) s m #[(.ref a), (.int (0 : Int32)), (.int (3 : Int32))] below meth c s₁ [] 0 0 := Stand.of_body Bd
  have e0 : s₁.heap = h0 := by rw [← hh, Bd.state]; rfl
  have N0 := Fr.nil n0
  show Goes p e below _ (s₁.setTop (entryFrame m #[(.ref a), (.int (0 : Int32)), (.int (3 : Int32))] 6))
  refine Goes.on (B := s₁.setTop (mkF m 0 #[.val (.ref a), .val (.int (0 : Int32)), .val (.int (3 : Int32)), .unset, .unset, .unset] [])) (fun t k => castTop (ef_cB3 m a (0 : Int32) (3 : Int32)) k) ?_
  refine Goes.on (B := s₁.setTop (mkF m 1 #[.val (.ref a), .val (.int (0 : Int32)), .val (.int (3 : Int32)), .unset, .unset, .unset] [(.int (3 : Int32))])) (fun _ k => XS.iloadN X0.here hx rfl (hb hby d9_0) rfl  k) ?_
  obtain ⟨T1, h1, k1, X1, e1, E1, A1, st1⟩ := newP X0 hx hZ (hw _ (om 23 rfl)) e0 (g := (mkF m 1 #[.val (.ref a), .val (.int (0 : Int32)), .val (.int (3 : Int32)), .unset, .unset, .unset] [(.int (3 : Int32))])) rfl (hb hby d9_1) rfl (by decide) (cap := 3) (by decide) (by decide) (by decide) (by decide)
  obtain ⟨b1, g1⟩ : ∃ z, z = h0.size := ⟨_, rfl⟩
  rw [← g1] at A1 st1
  have ne_a_b1 : a ≠ b1 := Nat.ne_of_lt (Nat.lt_of_lt_of_le AC.lt (Nat.le_of_eq g1.symm))
  have f2 := X00.ext E1
  have f3 := AC.ext E1
  have z4 : n0 ≤ h1.size := Nat.le_trans Z0 E1.1
  have K5 : Keep h0 h1 [] := (Keep.refl h0 []).ext E1
  have g_b1 : n0 ≤ b1 := Nat.le_trans Z0 (Nat.le_of_eq g1.symm)
  have sz_b1 : h0.size ≤ b1 := Nat.le_trans (Keep.refl h0 []).1 (Nat.le_of_eq g1.symm)
  have V1 : Arv Z h1 b1 k1 .byte (3 : Int32) [(.int (0 : Int32)), (.int (0 : Int32)), (.int (0 : Int32))] (.int (0 : Int32)) := (Arv.new A1 (by decide)).pad (pad_rep [] (.int (0 : Int32)) 3)
  refine Goes.on (B := T1.setTop (mkF m 3 #[.val (.ref a), .val (.int (0 : Int32)), .val (.int (3 : Int32)), .unset, .unset, .unset] [(.ref b1)])) (fun t k => st1 t k) ?_
  refine Goes.on (B := T1.setTop (mkF m 9 #[.val (.ref a), .val (.int (0 : Int32)), .val (.int (3 : Int32)), .val (.ref b1), .unset, .unset] [(.int (3 : Int32)), (.int (0 : Int32)), (.ref b1), (.int (0 : Int32)), (.ref a)])) (fun _ k => XS.astoreN X1.here hx rfl (hb hby d9_3) rfl rfl (l' := #[.val (.ref a), .val (.int (0 : Int32)), .val (.int (3 : Int32)), .val (.ref b1), .unset, .unset]) rfl (XS.aloadN X1.here hx rfl (hb hby d9_4) rfl rfl  (XS.iloadN X1.here hx rfl (hb hby d9_5) rfl  (XS.aloadN X1.here hx rfl (hb hby d9_6) rfl rfl  (XS.iconst X1.here hx rfl (hb hby d9_7) (XS.iloadN X1.here hx rfl (hb hby d9_8) rfl  k)))))) ?_
  obtain ⟨_, _, ⟨T6, L6, k6, n6⟩, -, X6, ⟨Lc6, hQ6, l6, y6, z6⟩, st6⟩ := Jvm.LawKit.callS X1 hx (y := (⟨"java/lang/StringUTF16", "compress", "([CI[BII)I"⟩ : MethodName)) hown (mvT hZ (hw _ (om 53 rfl))) (mvT hZ (hw _ (om 54 rfl))) (mvT hZ (hw _ (om 51 rfl))) (mvT hZ (hw _ (om 55 rfl))) (by decide) (backOf (W := 0) (rmcI3 l Z a0 hw [] a b1 kC k1 c0 c1 c2 h1 n0 z4 f2 f3 V1 g_b1 ne_a_b1 r0 r1 r2 hwd) hZ (hw _ (om 55 rfl)) (hw _ (om 51 rfl)) (by decide) (by decide)) (g := (mkF m 9 #[.val (.ref a), .val (.int (0 : Int32)), .val (.int (3 : Int32)), .val (.ref b1), .unset, .unset] [(.int (3 : Int32)), (.int (0 : Int32)), (.ref b1), (.int (0 : Int32)), (.ref a)])) rfl (by rw [hml]; rfl) (argsL := [(.ref a), (.int (0 : Int32)), (.ref b1), (.int (0 : Int32)), (.int (3 : Int32))]) (rest := []) (lenOf pd_9___CI_BII_I rfl) rfl (by show 2 * 0 + _ ≤ _; exact Nat.le_of_eq rfl) (hb hby d9_9) (fun _ _ => ⟨rfl, e1, (by decide : 1 + 0 ≤ _), (by decide : 3 + 0 ≤ _)⟩)
  dsimp only [Pt.U, Pt.locs, Pt.cells, Pt.slots] at X6 l6 y6 z6 st6 hQ6
  subst l6 y6 z6
  obtain ⟨ii, y, rfl, Nq6, Kq6, hne, hwy, ry, hi0, hi1, ha0, ha1⟩ := hQ6
  obtain ⟨h6, eh6⟩ : ∃ h, T6.heap = h := ⟨_, rfl⟩
  rw [eh6] at Kq6
  have f7 := f2.keep Kq6 (allS g_b1 all0)
  have f8 := f3.keep Kq6 (ninS ne_a_b1 nin0)
  have z9 : n0 ≤ h6.size := Nat.le_trans z4 Kq6.1
  have K10 : Keep h0 h6 [] := K5.trans Kq6 (allS (Or.inr sz_b1) all0)
  have N6 := Fr.app N0 Nq6
  refine Goes.on (B := T6.setTop (mkF m 12 #[.val (.ref a), .val (.int (0 : Int32)), .val (.int (3 : Int32)), .val (.ref b1), .unset, .unset] [(.int ii)])) (fun t k => st6 t k) ?_
  refine Goes.on (B := T6.setTop (mkF m 23 #[.val (.ref a), .val (.int (0 : Int32)), .val (.int (3 : Int32)), .val (.ref b1), .val (.int ii), .unset] [(.int (3 : Int32)), (.int (0 : Int32)), (.ref a)])) (fun _ k => XS.istore X6.here hx rfl (hb hby d9_12) rfl (l' := #[.val (.ref a), .val (.int (0 : Int32)), .val (.int (3 : Int32)), .val (.ref b1), .val (.int ii), .unset]) rfl (XS.iload X6.here hx rfl (hb hby d9_14) rfl  (XS.iloadN X6.here hx rfl (hb hby d9_16) rfl  (XS.icmpNo X6.here hx rfl (hb hby d9_17) rfl (feq hne).1 (XS.aloadN X6.here hx rfl (hb hby d9_20) rfl rfl  (XS.iloadN X6.here hx rfl (hb hby d9_21) rfl  (XS.iloadN X6.here hx rfl (hb hby d9_22) rfl  k))))))) ?_
  obtain ⟨_, _, ⟨T11, L11, k11, n11⟩, -, X11, ⟨Lc11, hQ11, l11, y11, z11⟩, st11⟩ := Jvm.LawKit.callS X6 hx (y := (⟨"java/lang/StringUTF16", "toBytes", "([CII)[B"⟩ : MethodName)) hown (mvT hZ (hw _ (om 90 rfl))) (mvT hZ (hw _ (om 91 rfl))) (mvT hZ (hw _ (om 51 rfl))) (mvT hZ (hw _ (om 92 rfl))) (by decide) (backOf (W := 0) (rmtb3 l Z a0 hw [] a kC c0 c1 c2 GA GB h6 n0 z9 SS f7 f8) hZ (hw _ (om 92 rfl)) (hw _ (om 51 rfl)) (by decide) (by decide)) (g := (mkF m 23 #[.val (.ref a), .val (.int (0 : Int32)), .val (.int (3 : Int32)), .val (.ref b1), .val (.int ii), .unset] [(.int (3 : Int32)), (.int (0 : Int32)), (.ref a)])) rfl (by rw [hml]; rfl) (argsL := [(.ref a), (.int (0 : Int32)), (.int (3 : Int32))]) (rest := []) (lenOf pd_9___CII__B rfl) rfl (by show 2 * 0 + _ ≤ _; exact Nat.le_of_eq rfl) (hb hby d9_23) (fun _ _ => ⟨rfl, eh6, (by decide : 1 + 1 ≤ _), (by decide : 3 + 6 ≤ _)⟩)
  dsimp only [Pt.U, Pt.locs, Pt.cells, Pt.slots] at X11 l11 y11 z11 st11 hQ11
  subst l11 y11 z11
  obtain ⟨b11, kb11, rfl, Nq11, Kq11, g_b11, sq_b11, Vq11⟩ := hQ11
  obtain ⟨h11, eh11⟩ : ∃ h, T11.heap = h := ⟨_, rfl⟩
  rw [eh11] at Kq11 Vq11
  have ne_a_b11 : a ≠ b11 := Nat.ne_of_lt (Nat.lt_of_lt_of_le f8.lt sq_b11)
  have f12 := f7.keep Kq11 (all0)
  have f13 := f8.keep Kq11 nin0
  have z14 : n0 ≤ h11.size := Nat.le_trans z9 Kq11.1
  have K15 : Keep h0 h11 [] := K10.trans Kq11 all0
  have sz_b11 : h0.size ≤ b11 := Nat.le_trans K10.1 sq_b11
  have N11 := Fr.app N6 Nq11
  refine Goes.on (B := T11.setTop (mkF m 26 #[.val (.ref a), .val (.int (0 : Int32)), .val (.int (3 : Int32)), .val (.ref b1), .val (.int ii), .unset] [(.ref b11)])) (fun t k => st11 t k) ?_
  refine Goes.on (B := T11.setTop (mkF m 32 #[.val (.ref a), .val (.int (0 : Int32)), .val (.int (3 : Int32)), .val (.ref b1), .val (.int ii), .val (.ref b11)] [(.int ii), (.ref b11)])) (fun _ k => XS.astore X11.here hx rfl (hb hby d9_26) rfl rfl (l' := #[.val (.ref a), .val (.int (0 : Int32)), .val (.int (3 : Int32)), .val (.ref b1), .val (.int ii), .val (.ref b11)]) rfl (XS.aload X11.here hx rfl (hb hby d9_28) rfl rfl  (XS.iload X11.here hx rfl (hb hby d9_30) rfl  k))) ?_
  obtain ⟨_, _, ⟨T16, L16, k16, n16⟩, -, X16, ⟨Lc16, hQ16, l16, y16, z16⟩, st16⟩ := Jvm.LawKit.callS X11 hx (y := (⟨"java/lang/StringUTF16", "getChar", "([BI)C"⟩ : MethodName)) hown (mvT hZ (hw _ (om 106 rfl))) (mvT hZ (hw _ (om 107 rfl))) (mvT hZ (hw _ (om 51 rfl))) (mvT hZ (hw _ (om 108 rfl))) (by decide) (backOf (W := 0) (rmgc l Z a0 hw [] b11 ii kb11 (6 : Int32) [(.int (bA c0)), (.int (bB c0)), (.int (bA c1)), (.int (bB c1)), (.int (bA c2)), (.int (bB c2))] y GA GB h11 n0 z14 SS f12 Vq11 hi0 hi1 ha0 ha1 ry) hZ (hw _ (om 108 rfl)) (hw _ (om 51 rfl)) (by decide) (by decide)) (g := (mkF m 32 #[.val (.ref a), .val (.int (0 : Int32)), .val (.int (3 : Int32)), .val (.ref b1), .val (.int ii), .val (.ref b11)] [(.int ii), (.ref b11)])) rfl (by rw [hml]; rfl) (argsL := [(.ref b11), (.int ii)]) (rest := []) (lenOf pd_9___BI_C rfl) rfl (by show 2 * 0 + _ ≤ _; exact Nat.le_of_eq rfl) (hb hby d9_32) (fun _ _ => ⟨rfl, eh11, (by decide : 2 + 0 ≤ _), (by decide : 9 + 0 ≤ _)⟩)
  dsimp only [Pt.U, Pt.locs, Pt.cells, Pt.slots] at X16 l16 y16 z16 st16 hQ16
  subst l16 y16 z16
  obtain ⟨rfl, Nq16, eh16⟩ := hQ16
  have N16 := Fr.app N11 Nq16
  refine Goes.on (B := T16.setTop (mkF m 35 #[.val (.ref a), .val (.int (0 : Int32)), .val (.int (3 : Int32)), .val (.ref b1), .val (.int ii), .val (.ref b11)] [(.int y)])) (fun t k => st16 t k) ?_
  refine Goes.on (B := T16.setTop (mkF m 56 #[.val (.ref a), .val (.int (0 : Int32)), .val (.int (3 : Int32)), .val (.ref b1), .val (.int ii), .val (.ref b11)] [(.ref b11)])) (fun _ k => XS.sipush X16.here hx rfl (hb hby d9_35) (XS.icmpYes X16.here hx rfl (pc0 := 38) (pc' := 54) rfl (hb hby d9_38) rfl (tlt hwy).2.2.1 (by decide) (by decide) (XS.aload X16.here hx rfl (hb hby d9_54) rfl rfl  k))) ?_
  obtain ⟨fs, hr, hrun, hended, hW, hsame⟩ := X16.leave (v := some (.ref b11)) (fun h => by rw [Bd.returns] at h; cases h)
  exact Goes.leaf (own_retR X16 hx Bd.returns rfl rfl (hb hby d9_56) hr) hrun hended ⟨_, _, rfl, by show QcB3 Z a kC c0 c1 c2 GA GB h0 n0 _ T16.heap _; rw [eh16]; exact ⟨b11, _, rfl, N16, K15, g_b11, sz_b11, Vq11⟩, ⟨_, rfl⟩, hW, hsame.mono (by decide) (by decide)⟩
theorem ef_cf3 (m : MethodId) (x0 : Addr) (x1 : Int32) : entryFrame m #[(.ref x0), (.int x1)] 2 = mkF m 0 #[.val (.ref x0), .val (.int x1)] [] := by first | (simp [entryFrame, mkF, argsToLocals, Value.category]; done) | rfl
def Qcf3 (Z : State) (a : Addr) (kA : ClassId) (vs : List Value) (h0 : Heap) (n0 : Nat) (v : Option Value) (h : Heap) (L : List Loc) : Prop := v = some (.int (1 : Int32)) ∧ Fr n0 L ∧ h = h0
set_option maxRecDepth 65536 in
set_option maxHeartbeats 40000000 in
theorem rmcf3 (l : Launch) (Z : State) (a0 : Array Value) (hw : ∀ d ∈ tables_1, d.before a0 Z = true) (ws : List Jvm.Cond) (a : Addr) (kA : ClassId) (vs : List Value) (h0 : Heap) (n0 : Nat) (Z0 : n0 ≤ h0.size) (AV : Arv Z h0 a kA .byte (6 : Int32) vs (.int (0 : Int32))) :
    MetFree l (⟨"java/lang/StringUTF16", "coderFromArrayLen", "([BI)B"⟩ : MethodName) (head1 (Jvm.Cond.code (⟨"java/lang/StringUTF16", "coderFromArrayLen", "([BI)B"⟩ : MethodName) jdk_52_method_15_code 2 (some .byte) :: ws) ({ frames := 0, cells := 0, slots := 0, locals := 0 } : Room)) (fun aa U => aa = #[(.ref a), (.int (3 : Int32))] ∧ Z.Warmed39 U.vm ∧ U.heap = h0) (fun _ _ _ _ _ => True) (fun _ U oo U' => ∃ vv LL, oo = .returned vv ∧ Qcf3 Z a kA vs h0 n0 vv U'.heap LL ∧ FrameEnd U oo U' LL ({ frames := 0, cells := 0, slots := 0, locals := 0 } : Room).cells ({ frames := 0, cells := 0, slots := 0, locals := 0 } : Room).slots) := by
  refine MetFree.of_bodySF (plainFor_of_name pn_11) hisR ?_
  intro p e s m args below meth c s₁ Bd hml0 hP hK
  obtain ⟨rfl, hZ, hh⟩ := hP
  have hx := Bd.exec
  have hby := Bd.bytes
  have hml : c.maxLocals = 2 := hml0
  have hown : s.vm.findClass "java/lang/StringUTF16" = some m.cls := findClass_of_methodNamed Bd.named
  have hnm := (name_of_methodNamed Bd.named Bd.method).1
  have X0 : Stand p l e ({ frames := 0, cells := 0, slots := 0, locals := 0 } : Room) s m #[(.ref a), (.int (3 : Int32))] below meth c s₁ [] 0 0 := Stand.of_body Bd
  have e0 : s₁.heap = h0 := by rw [← hh, Bd.state]; rfl
  have N0 := Fr.nil n0
  show Goes p e below _ (s₁.setTop (entryFrame m #[(.ref a), (.int (3 : Int32))] 2))
  refine Goes.on (B := s₁.setTop (mkF m 0 #[.val (.ref a), .val (.int (3 : Int32))] [])) (fun t k => castTop (ef_cf3 m a (3 : Int32)) k) ?_
  refine Goes.on (B := s₁.setTop (mkF m 2 #[.val (.ref a), .val (.int (3 : Int32))] [(.ref a), (.int (3 : Int32))])) (fun _ k => XS.iloadN X0.here hx rfl (hb hby d11_0) rfl  (XS.aloadN X0.here hx rfl (hb hby d11_1) rfl rfl  k)) ?_
  obtain ⟨cl1, Ar1, -, S1, Nn1, -, -⟩ := id AV
  refine Goes.on (B := s₁.setTop (mkF m 3 #[.val (.ref a), .val (.int (3 : Int32))] [(.int (6 : Int32)), (.int (3 : Int32))])) (fun t k => X0.arraylength hx (by rw [e0]; exact Ar1.1) (State.isArrayOf_alike hZ.alike Ar1.2.1) (g := (mkF m 2 #[.val (.ref a), .val (.int (3 : Int32))] [(.ref a), (.int (3 : Int32))])) rfl rfl (hb hby d11_2) t (by rw [len_of S1 Nn1]; exact k)) ?_
  refine Goes.on (B := s₁.setTop (mkF m 8 #[.val (.ref a), .val (.int (3 : Int32))] [(.int (1 : Int32))])) (fun _ k => XS.isub X0.here hx rfl (hb hby d11_3) rfl (XS.bipush X0.here hx rfl (hb hby d11_4) (XS.iushr X0.here hx rfl (hb hby d11_6) rfl (XS.i2b X0.here hx rfl (hb hby d11_7) rfl k)))) ?_
  obtain ⟨fs, hr, hrun, hended, hW, hsame⟩ := X0.leave (v := some (.int (1 : Int32))) (fun h => by rw [Bd.returns] at h; cases h)
  exact Goes.leaf (retN X0 hx (t := .byte) Bd.returns (by simp) (hb hby d11_8) hr) hrun hended ⟨_, _, rfl, by show Qcf3 Z a kA vs h0 n0 _ s₁.heap _; rw [e0]; exact ⟨rfl, N0, rfl⟩, ⟨_, rfl⟩, hW, hsame.mono (by decide) (by decide)⟩
theorem ef_v3 (m : MethodId) (x0 : Addr) (x1 : Addr) (x2 : Int32) (x3 : Int32) : entryFrame m #[(.ref x0), (.ref x1), (.int x2), (.int x3), .null] 6 = mkF m 0 #[.val (.ref x0), .val (.ref x1), .val (.int x2), .val (.int x3), .val .null, .unset] [] := by first | (simp [entryFrame, mkF, argsToLocals, Value.category]; done) | rfl
def Qv3 (Z : State) (x : Addr) (a : Addr) (kC : ClassId) (c0 c1 c2 : Int32) (GA : Int32) (GB : Value) (h0 : Heap) (n0 : Nat) (v : Option Value) (h : Heap) (L : List Loc) : Prop := v = none ∧ Fr n0 L ∧ Keep h0 h [x] ∧ Exa Z h x "java/lang/String" ∧ Fld Z h x "java/lang/String" "coder" "B" (.int (1 : Int32)) ∧ ∃ (t : Addr) (kb : ClassId), n0 ≤ t ∧ Fld Z h x "java/lang/String" "value" "[B" (.ref t) ∧ Arv Z h t kb .byte (6 : Int32) [(.int (bA c0)), (.int (bB c0)), (.int (bA c1)), (.int (bB c1)), (.int (bA c2)), (.int (bB c2))] (.int (0 : Int32))
set_option maxRecDepth 65536 in
set_option maxHeartbeats 40000000 in
theorem rmv3 (l : Launch) (Z : State) (a0 : Array Value) (hw : ∀ d ∈ tables_1, d.before a0 Z = true) (ws : List Jvm.Cond) (x : Addr) (a : Addr) (kC : ClassId) (c0 c1 c2 : Int32) (GA : Int32) (GB : Value) (h0 : Heap) (n0 : Nat) (Z0 : n0 ≤ h0.size) (SS : own_St Z GA GB) (X00 : Old Z n0 h0) (EX : Exa Z h0 x "java/lang/String") (FC : Fld Z h0 x "java/lang/String" "coder" "B" (.int (0 : Int32))) (FV : Fld Z h0 x "java/lang/String" "value" "[B" .null) (gx : n0 ≤ x) (AC : Arv Z h0 a kC .char (3 : Int32) [(.int c0), (.int c1), (.int c2)] (.int (0 : Int32))) (r0 : own_rg c0) (r1 : own_rg c1) (r2 : own_rg c2) (hwd : ¬ (¬ (255 : Int32) < c0 ∧ ¬ (255 : Int32) < c1 ∧ ¬ (255 : Int32) < c2)) :
    MetFree l (⟨"java/lang/String", "<init>", "([CIILjava/lang/Void;)V"⟩ : MethodName) (head1 (Jvm.Cond.code (⟨"java/lang/String", "<init>", "([CIILjava/lang/Void;)V"⟩ : MethodName) jdk_42_method_149_code 6 none :: ws) ({ frames := 4, cells := 2, slots := 9, locals := 60 } : Room)) (fun aa U => aa = #[(.ref x), (.ref a), (.int (0 : Int32)), (.int (3 : Int32)), .null] ∧ Z.Warmed39 U.vm ∧ U.heap = h0) (fun _ _ _ _ _ => True) (fun _ U oo U' => ∃ vv LL, oo = .returned vv ∧ Qv3 Z x a kC c0 c1 c2 GA GB h0 n0 vv U'.heap LL ∧ FrameEnd U oo U' LL ({ frames := 4, cells := 2, slots := 9, locals := 60 } : Room).cells ({ frames := 4, cells := 2, slots := 9, locals := 60 } : Room).slots) := by
  refine MetFree.of_bodySF (plainFor_of_name pn_4) hisR ?_
  intro p e s m args below meth c s₁ Bd hml0 hP hK
  obtain ⟨rfl, hZ, hh⟩ := hP
  have hx := Bd.exec
  have hby := Bd.bytes
  have hml : c.maxLocals = 6 := hml0
  have hown : s.vm.findClass "java/lang/String" = some m.cls := findClass_of_methodNamed Bd.named
  have hnm := (name_of_methodNamed Bd.named Bd.method).1
  have X0 : Stand p l e ({ frames := 4, cells := 2, slots := 9, locals := 60 } : Room) s m #[(.ref x), (.ref a), (.int (0 : Int32)), (.int (3 : Int32)), .null] below meth c s₁ [] 0 0 := Stand.of_body Bd
  have e0 : s₁.heap = h0 := by rw [← hh, Bd.state]; rfl
  have N0 := Fr.nil n0
  show Goes p e below _ (s₁.setTop (entryFrame m #[(.ref x), (.ref a), (.int (0 : Int32)), (.int (3 : Int32)), .null] 6))
  refine Goes.on (B := s₁.setTop (mkF m 0 #[.val (.ref x), .val (.ref a), .val (.int (0 : Int32)), .val (.int (3 : Int32)), .val .null, .unset] [])) (fun t k => castTop (ef_v3 m x a (0 : Int32) (3 : Int32)) k) ?_
  refine Goes.on (B := s₁.setTop (mkF m 1 #[.val (.ref x), .val (.ref a), .val (.int (0 : Int32)), .val (.int (3 : Int32)), .val .null, .unset] [(.ref x)])) (fun _ k => XS.aloadN X0.here hx rfl (hb hby d4_0) rfl rfl  k) ?_
  obtain ⟨T1, X1, e1, st1⟩ := initO X0 hx hZ hown (hw _ (om 19 rfl)) (hw _ (om 20 rfl)) (hw _ (om 21 rfl)) e0 (g := (mkF m 1 #[.val (.ref x), .val (.ref a), .val (.int (0 : Int32)), .val (.int (3 : Int32)), .val .null, .unset] [(.ref x)])) rfl (by rw [hml]; rfl) rfl (hb hby d4_1) (by decide) (W := 0) (by show 2 * 0 + _ ≤ _; exact Nat.le_of_eq rfl) (by decide)
  refine Goes.on (B := T1.setTop (mkF m 4 #[.val (.ref x), .val (.ref a), .val (.int (0 : Int32)), .val (.int (3 : Int32)), .val .null, .unset] [])) (fun t k => st1 t k) ?_
  refine Goes.on (B := T1.setTop (mkF m 27 #[.val (.ref x), .val (.ref a), .val (.int (0 : Int32)), .val (.int (3 : Int32)), .val .null, .unset] [])) (fun _ k => XS.iloadN X1.here hx rfl (hb hby d4_4) rfl  (XS.ifYes X1.here hx rfl (pc0 := 5) (pc' := 27) rfl (hb hby d4_5) rfl ((if0 _ _).trans (feq (by decide)).2) (by decide) (by decide) k)) ?_
  obtain ⟨T2, X2, e2, st2⟩ := getS2 X1 hx hZ hown (host := "") (Or.inl (hw _ (om 48 rfl))) Via.refl e1 (SS.1.ext X00.2) (g := (mkF m 27 #[.val (.ref x), .val (.ref a), .val (.int (0 : Int32)), .val (.int (3 : Int32)), .val .null, .unset] [])) rfl (hb hby d4_27)
  refine Goes.on (B := T2.setTop (mkF m 30 #[.val (.ref x), .val (.ref a), .val (.int (0 : Int32)), .val (.int (3 : Int32)), .val .null, .unset] [(.int GA)])) (fun t k => st2 t k) ?_
  refine Goes.on (B := T2.setTop (mkF m 36 #[.val (.ref x), .val (.ref a), .val (.int (0 : Int32)), .val (.int (3 : Int32)), .val .null, .unset] [(.int (3 : Int32)), (.int (0 : Int32)), (.ref a)])) (fun _ k => XS.ifNo X2.here hx rfl (hb hby d4_30) rfl ((if0 _ _).trans (feq SS.2.1).1) (XS.aloadN X2.here hx rfl (hb hby d4_33) rfl rfl  (XS.iloadN X2.here hx rfl (hb hby d4_34) rfl  (XS.iloadN X2.here hx rfl (hb hby d4_35) rfl  k)))) ?_
  obtain ⟨_, _, ⟨T3, L3, k3, n3⟩, -, X3, ⟨Lc3, hQ3, l3, y3, z3⟩, st3⟩ := Jvm.LawKit.callS X2 hx (y := (⟨"java/lang/StringUTF16", "compress", "([CII)[B"⟩ : MethodName)) hown (mvT hZ (hw _ (om 49 rfl))) (mvT hZ (hw _ (om 50 rfl))) (mvT hZ (hw _ (om 51 rfl))) (mvT hZ (hw _ (om 52 rfl))) (by decide) (backOf (W := 0) (rmcB3 l Z a0 hw [] a kC c0 c1 c2 GA GB h0 n0 Z0 SS X00 AC r0 r1 r2 hwd) hZ (hw _ (om 52 rfl)) (hw _ (om 51 rfl)) (by decide) (by decide)) (g := (mkF m 36 #[.val (.ref x), .val (.ref a), .val (.int (0 : Int32)), .val (.int (3 : Int32)), .val .null, .unset] [(.int (3 : Int32)), (.int (0 : Int32)), (.ref a)])) rfl (by rw [hml]; rfl) (argsL := [(.ref a), (.int (0 : Int32)), (.int (3 : Int32))]) (rest := []) (lenOf pd_4___CII__B rfl) rfl (by show 2 * 0 + _ ≤ _; exact Nat.le_of_eq rfl) (hb hby d4_36) (fun _ _ => ⟨rfl, e2, (by decide : 0 + 2 ≤ _), (by decide : 0 + 9 ≤ _)⟩)
  dsimp only [Pt.U, Pt.locs, Pt.cells, Pt.slots] at X3 l3 y3 z3 st3 hQ3
  subst l3 y3 z3
  obtain ⟨b3, kb3, rfl, Nq3, Kq3, g_b3, sq_b3, Vq3⟩ := hQ3
  obtain ⟨h3, eh3⟩ : ∃ h, T3.heap = h := ⟨_, rfl⟩
  rw [eh3] at Kq3 Vq3
  have ne_x_b3 : x ≠ b3 := Nat.ne_of_lt (Nat.lt_of_lt_of_le EX.lt sq_b3)
  have ne_a_b3 : a ≠ b3 := Nat.ne_of_lt (Nat.lt_of_lt_of_le AC.lt sq_b3)
  have f4 := X00.keep Kq3 (all0)
  have f5 := EX.keep Kq3
  have f6 := FC.keep Kq3 nin0
  have f7 := FV.keep Kq3 nin0
  have f8 := AC.keep Kq3 nin0
  have z9 : n0 ≤ h3.size := Nat.le_trans Z0 Kq3.1
  have K10 : Keep h0 h3 [x] := (Keep.refl h0 [x]).trans Kq3 all0
  have sz_b3 : h0.size ≤ b3 := Nat.le_trans (Keep.refl h0 [x]).1 sq_b3
  have N3 := Fr.app N0 Nq3
  refine Goes.on (B := T3.setTop (mkF m 39 #[.val (.ref x), .val (.ref a), .val (.int (0 : Int32)), .val (.int (3 : Int32)), .val .null, .unset] [(.ref b3)])) (fun t k => st3 t k) ?_
  refine Goes.on (B := T3.setTop (mkF m 45 #[.val (.ref x), .val (.ref a), .val (.int (0 : Int32)), .val (.int (3 : Int32)), .val .null, .val (.ref b3)] [(.int (3 : Int32)), (.ref b3), (.ref x)])) (fun _ k => XS.astore X3.here hx rfl (hb hby d4_39) rfl rfl (l' := #[.val (.ref x), .val (.ref a), .val (.int (0 : Int32)), .val (.int (3 : Int32)), .val .null, .val (.ref b3)]) rfl (XS.aloadN X3.here hx rfl (hb hby d4_41) rfl rfl  (XS.aload X3.here hx rfl (hb hby d4_42) rfl rfl  (XS.iloadN X3.here hx rfl (hb hby d4_44) rfl  k)))) ?_
  obtain ⟨_, _, ⟨T11, L11, k11, n11⟩, -, X11, ⟨Lc11, hQ11, l11, y11, z11⟩, st11⟩ := Jvm.LawKit.callS X3 hx (y := (⟨"java/lang/StringUTF16", "coderFromArrayLen", "([BI)B"⟩ : MethodName)) hown (mvT hZ (hw _ (om 56 rfl))) (mvT hZ (hw _ (om 57 rfl))) (mvT hZ (hw _ (om 51 rfl))) (mvT hZ (hw _ (om 58 rfl))) (by decide) (backOf (W := 1) (rmcf3 l Z a0 hw [] b3 kb3 [(.int (bA c0)), (.int (bB c0)), (.int (bA c1)), (.int (bB c1)), (.int (bA c2)), (.int (bB c2))] h3 n0 z9 Vq3) hZ (hw _ (om 58 rfl)) (hw _ (om 51 rfl)) (by decide) (by decide)) (g := (mkF m 45 #[.val (.ref x), .val (.ref a), .val (.int (0 : Int32)), .val (.int (3 : Int32)), .val .null, .val (.ref b3)] [(.int (3 : Int32)), (.ref b3), (.ref x)])) rfl (by rw [hml]; rfl) (argsL := [(.ref b3), (.int (3 : Int32))]) (rest := [(.ref x)]) (lenOf pd_4___BI_B rfl) rfl (by show 2 * 0 + _ ≤ _; exact Nat.le_of_eq rfl) (hb hby d4_45) (fun _ _ => ⟨rfl, eh3, (by decide : 2 + 0 ≤ _), (by decide : 9 + 0 ≤ _)⟩)
  dsimp only [Pt.U, Pt.locs, Pt.cells, Pt.slots] at X11 l11 y11 z11 st11 hQ11
  subst l11 y11 z11
  obtain ⟨rfl, Nq11, eh11⟩ := hQ11
  have N11 := Fr.app N3 Nq11
  refine Goes.on (B := T11.setTop (mkF m 48 #[.val (.ref x), .val (.ref a), .val (.int (0 : Int32)), .val (.int (3 : Int32)), .val .null, .val (.ref b3)] [(.int (1 : Int32)), (.ref x)])) (fun t k => st11 t k) ?_
  obtain ⟨T12, h12, X12, e12, W12, st12⟩ := putF X11 hx hZ hown (host := "") (Or.inl (hw _ (om 29 rfl))) Via.refl eh11 f6 f5 (Or.inr ⟨(hw _ (om 25 rfl)), rfl, hnm⟩) (hw _ (om 9 rfl)) (ty := .byte) (by decide) rfl rfl (g := (mkF m 48 #[.val (.ref x), .val (.ref a), .val (.int (0 : Int32)), .val (.int (3 : Int32)), .val .null, .val (.ref b3)] [(.int (1 : Int32)), (.ref x)])) rfl rfl (hb hby d4_48)
  have f13 := f4.wr W12 gx
  have f14 := f5.wr W12
  have f15 := f6.same W12
  have f16 := f7.other W12 (Or.inr (slot_ne (Or.inr (hw _ (om 24 rfl))) (Or.inr (hw _ (om 25 rfl))) (by decide) (t := (.array .byte)) (t' := .byte) (by decide) (by decide)))
  have f17 := Vq3.other W12 (Ne.symm ne_x_b3)
  have z18 : n0 ≤ h12.size := Nat.le_trans z9 (Keep.of_wr W12).1
  have K19 : Keep h0 h12 [x] := K10.wr W12 (Or.inl (om 0 rfl))
  have N12 := Fr.snoc X12 N11 gx
  refine Goes.on (B := T12.setTop (mkF m 51 #[.val (.ref x), .val (.ref a), .val (.int (0 : Int32)), .val (.int (3 : Int32)), .val .null, .val (.ref b3)] [])) (fun t k => st12 t k) ?_
  refine Goes.on (B := T12.setTop (mkF m 54 #[.val (.ref x), .val (.ref a), .val (.int (0 : Int32)), .val (.int (3 : Int32)), .val .null, .val (.ref b3)] [(.ref b3), (.ref x)])) (fun _ k => XS.aloadN X12.here hx rfl (hb hby d4_51) rfl rfl  (XS.aload X12.here hx rfl (hb hby d4_52) rfl rfl  k)) ?_
  obtain ⟨T20, h20, X20, e20, W20, st20⟩ := putF X12 hx hZ hown (host := "") (Or.inl (hw _ (om 28 rfl))) Via.refl e12 f16 f14 (Or.inr ⟨(hw _ (om 24 rfl)), rfl, hnm⟩) (hw _ (om 9 rfl)) (ty := (.array .byte)) (by decide) rfl rfl (g := (mkF m 54 #[.val (.ref x), .val (.ref a), .val (.int (0 : Int32)), .val (.int (3 : Int32)), .val .null, .val (.ref b3)] [(.ref b3), (.ref x)])) rfl rfl (hb hby d4_54)
  have f21 := f13.wr W20 gx
  have f22 := f14.wr W20
  have f23 := f15.other W20 (Or.inr (slot_ne (Or.inr (hw _ (om 25 rfl))) (Or.inr (hw _ (om 24 rfl))) (by decide) (t := .byte) (t' := (.array .byte)) (by decide) (by decide)))
  have f24 := f16.same W20
  have f25 := f17.other W20 (Ne.symm ne_x_b3)
  have z26 : n0 ≤ h20.size := Nat.le_trans z18 (Keep.of_wr W20).1
  have K27 : Keep h0 h20 [x] := K19.wr W20 (Or.inl (om 0 rfl))
  have N20 := Fr.snoc X20 N12 gx
  refine Goes.on (B := T20.setTop (mkF m 57 #[.val (.ref x), .val (.ref a), .val (.int (0 : Int32)), .val (.int (3 : Int32)), .val .null, .val (.ref b3)] [])) (fun t k => st20 t k) ?_
  obtain ⟨fs, hr, hrun, hended, hW, hsame⟩ := X20.leave (v := none) (fun _ => rfl)
  exact Goes.leaf (X20.returnOut hx Bd.returns (hb hby d4_57) hr) hrun hended ⟨_, _, rfl, by show Qv3 Z x a kC c0 c1 c2 GA GB h0 n0 _ T20.heap _; rw [e20]; exact ⟨rfl, N20, K27, f22, f23, b3, _, g_b3, f24, f25⟩, ⟨_, rfl⟩, hW, hsame.mono (by decide) (by decide)⟩
theorem ef_u3 (m : MethodId) (x0 : Addr) (x1 : Addr) : entryFrame m #[(.ref x0), (.ref x1)] 2 = mkF m 0 #[.val (.ref x0), .val (.ref x1)] [] := by first | (simp [entryFrame, mkF, argsToLocals, Value.category]; done) | rfl
def Qu3 (Z : State) (x : Addr) (a : Addr) (kC : ClassId) (c0 c1 c2 : Int32) (GA : Int32) (GB : Value) (h0 : Heap) (n0 : Nat) (v : Option Value) (h : Heap) (L : List Loc) : Prop := v = none ∧ Fr n0 L ∧ Keep h0 h [x] ∧ Exa Z h x "java/lang/String" ∧ Fld Z h x "java/lang/String" "coder" "B" (.int (1 : Int32)) ∧ ∃ (t : Addr) (kb : ClassId), n0 ≤ t ∧ Fld Z h x "java/lang/String" "value" "[B" (.ref t) ∧ Arv Z h t kb .byte (6 : Int32) [(.int (bA c0)), (.int (bB c0)), (.int (bA c1)), (.int (bB c1)), (.int (bA c2)), (.int (bB c2))] (.int (0 : Int32))
set_option maxRecDepth 65536 in
set_option maxHeartbeats 40000000 in
theorem rmu3 (l : Launch) (Z : State) (a0 : Array Value) (hw : ∀ d ∈ tables_1, d.before a0 Z = true) (ws : List Jvm.Cond) (x : Addr) (a : Addr) (kC : ClassId) (c0 c1 c2 : Int32) (GA : Int32) (GB : Value) (h0 : Heap) (n0 : Nat) (Z0 : n0 ≤ h0.size) (SS : own_St Z GA GB) (X00 : Old Z n0 h0) (EX : Exa Z h0 x "java/lang/String") (FC : Fld Z h0 x "java/lang/String" "coder" "B" (.int (0 : Int32))) (FV : Fld Z h0 x "java/lang/String" "value" "[B" .null) (gx : n0 ≤ x) (AC : Arv Z h0 a kC .char (3 : Int32) [(.int c0), (.int c1), (.int c2)] (.int (0 : Int32))) (r0 : own_rg c0) (r1 : own_rg c1) (r2 : own_rg c2) (hwd : ¬ (¬ (255 : Int32) < c0 ∧ ¬ (255 : Int32) < c1 ∧ ¬ (255 : Int32) < c2)) :
    MetFree l (⟨"java/lang/String", "<init>", "([C)V"⟩ : MethodName) (head1 (Jvm.Cond.code (⟨"java/lang/String", "<init>", "([C)V"⟩ : MethodName) jdk_42_method_3_code 2 none :: ws) ({ frames := 5, cells := 2, slots := 9, locals := 77 } : Room)) (fun aa U => aa = #[(.ref x), (.ref a)] ∧ Z.Warmed39 U.vm ∧ U.heap = h0) (fun _ _ _ _ _ => True) (fun _ U oo U' => ∃ vv LL, oo = .returned vv ∧ Qu3 Z x a kC c0 c1 c2 GA GB h0 n0 vv U'.heap LL ∧ FrameEnd U oo U' LL ({ frames := 5, cells := 2, slots := 9, locals := 77 } : Room).cells ({ frames := 5, cells := 2, slots := 9, locals := 77 } : Room).slots) := by
  refine MetFree.of_bodySF (plainFor_of_name pn_3) hisR ?_
  intro p e s m args below meth c s₁ Bd hml0 hP hK
  obtain ⟨rfl, hZ, hh⟩ := hP
  have hx := Bd.exec
  have hby := Bd.bytes
  have hml : c.maxLocals = 2 := hml0
  have hown : s.vm.findClass "java/lang/String" = some m.cls := findClass_of_methodNamed Bd.named
  have hnm := (name_of_methodNamed Bd.named Bd.method).1
  have X0 : Stand p l e ({ frames := 5, cells := 2, slots := 9, locals := 77 } : Room) s m #[(.ref x), (.ref a)] below meth c s₁ [] 0 0 := Stand.of_body Bd
  have e0 : s₁.heap = h0 := by rw [← hh, Bd.state]; rfl
  have N0 := Fr.nil n0
  show Goes p e below _ (s₁.setTop (entryFrame m #[(.ref x), (.ref a)] 2))
  refine Goes.on (B := s₁.setTop (mkF m 0 #[.val (.ref x), .val (.ref a)] [])) (fun t k => castTop (ef_u3 m x a) k) ?_
  refine Goes.on (B := s₁.setTop (mkF m 4 #[.val (.ref x), .val (.ref a)] [(.ref a), (.int (0 : Int32)), (.ref a), (.ref x)])) (fun _ k => XS.aloadN X0.here hx rfl (hb hby d3_0) rfl rfl  (XS.aloadN X0.here hx rfl (hb hby d3_1) rfl rfl  (XS.iconst X0.here hx rfl (hb hby d3_2) (XS.aloadN X0.here hx rfl (hb hby d3_3) rfl rfl  k)))) ?_
  obtain ⟨cl1, Ar1, -, S1, Nn1, -, -⟩ := id AC
  refine Goes.on (B := s₁.setTop (mkF m 5 #[.val (.ref x), .val (.ref a)] [(.int (3 : Int32)), (.int (0 : Int32)), (.ref a), (.ref x)])) (fun t k => X0.arraylength hx (by rw [e0]; exact Ar1.1) (State.isArrayOf_alike hZ.alike Ar1.2.1) (g := (mkF m 4 #[.val (.ref x), .val (.ref a)] [(.ref a), (.int (0 : Int32)), (.ref a), (.ref x)])) rfl rfl (hb hby d3_4) t (by rw [len_of S1 Nn1]; exact k)) ?_
  refine Goes.on (B := s₁.setTop (mkF m 6 #[.val (.ref x), .val (.ref a)] [.null, (.int (3 : Int32)), (.int (0 : Int32)), (.ref a), (.ref x)])) (fun _ k => XS.aconstNull X0.here hx rfl (hb hby d3_5) k) ?_
  obtain ⟨_, _, ⟨T2, L2, k2, n2⟩, -, X2, ⟨Lc2, hQ2, l2, y2, z2⟩, st2⟩ := X0.specialBack hx (y := (⟨"java/lang/String", "<init>", "([CIILjava/lang/Void;)V"⟩ : MethodName)) rfl hown (mvT hZ (hw _ (om 15 rfl))) (mvT hZ (hw _ (om 16 rfl))) (mvT hZ (hw _ (om 18 rfl))) (by decide) (backOf (W := 0) (rmv3 l Z a0 hw [] x a kC c0 c1 c2 GA GB h0 n0 Z0 SS X00 EX FC FV gx AC r0 r1 r2 hwd) hZ (hw _ (om 18 rfl)) (hw _ (om 10 rfl)) (by decide) (by decide)) (g := (mkF m 6 #[.val (.ref x), .val (.ref a)] [.null, (.int (3 : Int32)), (.int (0 : Int32)), (.ref a), (.ref x)])) rfl (by rw [hml]; rfl) (Steps.refl _) (a := x) (argsL := [(.ref a), (.int (0 : Int32)), (.int (3 : Int32)), .null]) (rest := []) (lenOf pd_3___CIILjava_lang_Void__V rfl) rfl (by show 2 * 0 + _ ≤ _; exact Nat.le_of_eq rfl) (hb hby d3_6) (fun _ _ => ⟨rfl, e0, (by decide : 0 + 2 ≤ _), (by decide : 0 + 9 ≤ _)⟩)
  dsimp only [Pt.U, Pt.locs, Pt.cells, Pt.slots] at X2 l2 y2 z2 st2 hQ2
  subst l2 y2 z2
  obtain ⟨rfl, Nq2, Kq2, Eq2, Cq2, t2, kt2, gt2, Fq2, Aq2⟩ := hQ2
  obtain ⟨h2, eh2⟩ : ∃ h, T2.heap = h := ⟨_, rfl⟩
  rw [eh2] at Kq2 Eq2 Cq2 Fq2 Aq2
  have f3 := X00.keep Kq2 (allS gx all0)
  have f4 := EX.keep Kq2
  have z5 : n0 ≤ h2.size := Nat.le_trans Z0 Kq2.1
  have K6 : Keep h0 h2 [x] := (Keep.refl h0 [x]).trans Kq2 (allS (Or.inl (om 0 rfl)) all0)
  have N2 := Fr.app N0 Nq2
  refine Goes.on (B := T2.setTop (mkF m 9 #[.val (.ref x), .val (.ref a)] [])) (fun t k => st2.trans k) ?_
  obtain ⟨fs, hr, hrun, hended, hW, hsame⟩ := X2.leave (v := none) (fun _ => rfl)
  exact Goes.leaf (X2.returnOut hx Bd.returns (hb hby d3_9) hr) hrun hended ⟨_, _, rfl, by show Qu3 Z x a kC c0 c1 c2 GA GB h0 n0 _ T2.heap _; rw [eh2]; exact ⟨rfl, N2, K6, Eq2, Cq2, t2, _, gt2, Fq2, Aq2⟩, ⟨_, rfl⟩, hW, hsame.mono (by decide) (by decide)⟩
theorem ef_nl4 (m : MethodId) (x0 : Int32) : entryFrame m #[(.int x0)] 1 = mkF m 0 #[.val (.int x0)] [] := by first | (simp [entryFrame, mkF, argsToLocals, Value.category]; done) | rfl
def Qnl4 (Z : State)   (h0 : Heap) (n0 : Nat) (v : Option Value) (h : Heap) (L : List Loc) : Prop := v = some (.int (8 : Int32)) ∧ Fr n0 L ∧ h = h0
set_option maxRecDepth 65536 in
set_option maxHeartbeats 40000000 in
theorem rmnl4 (l : Launch) (Z : State) (a0 : Array Value) (hw : ∀ d ∈ tables_1, d.before a0 Z = true) (ws : List Jvm.Cond)   (h0 : Heap) (n0 : Nat) (Z0 : n0 ≤ h0.size)  :
    MetFree l (⟨"java/lang/StringUTF16", "newBytesLength", "(I)I"⟩ : MethodName) (head1 (Jvm.Cond.code (⟨"java/lang/StringUTF16", "newBytesLength", "(I)I"⟩ : MethodName) jdk_52_method_3_code 1 (some .int) :: ws) ({ frames := 0, cells := 0, slots := 0, locals := 0 } : Room)) (fun aa U => aa = #[(.int (4 : Int32))] ∧ Z.Warmed39 U.vm ∧ U.heap = h0) (fun _ _ _ _ _ => True) (fun _ U oo U' => ∃ vv LL, oo = .returned vv ∧ Qnl4 Z  h0 n0 vv U'.heap LL ∧ FrameEnd U oo U' LL ({ frames := 0, cells := 0, slots := 0, locals := 0 } : Room).cells ({ frames := 0, cells := 0, slots := 0, locals := 0 } : Room).slots) := by
  refine MetFree.of_bodySF (plainFor_of_name pn_21) hisR ?_
  intro p e s m args below meth c s₁ Bd hml0 hP hK
  obtain ⟨rfl, hZ, hh⟩ := hP
  have hx := Bd.exec
  have hby := Bd.bytes
  have hml : c.maxLocals = 1 := hml0
  have hown : s.vm.findClass "java/lang/StringUTF16" = some m.cls := findClass_of_methodNamed Bd.named
  have hnm := (name_of_methodNamed Bd.named Bd.method).1
  have X0 : Stand p l e ({ frames := 0, cells := 0, slots := 0, locals := 0 } : Room) s m #[(.int (4 : Int32))] below meth c s₁ [] 0 0 := Stand.of_body Bd
  have e0 : s₁.heap = h0 := by rw [← hh, Bd.state]; rfl
  have N0 := Fr.nil n0
  show Goes p e below _ (s₁.setTop (entryFrame m #[(.int (4 : Int32))] 1))
  refine Goes.on (B := s₁.setTop (mkF m 0 #[.val (.int (4 : Int32))] [])) (fun t k => castTop (ef_nl4 m (4 : Int32)) k) ?_
  refine Goes.on (B := s₁.setTop (mkF m 58 #[.val (.int (4 : Int32))] [(.int (8 : Int32))])) (fun _ k => XS.iloadN X0.here hx rfl (hb hby d21_0) rfl  (XS.ifYes X0.here hx rfl (pc0 := 1) (pc' := 12) rfl (hb hby d21_1) rfl ((if0 _ _).trans (flt (by decide)).2.1) (by decide) (by decide) (XS.iloadN X0.here hx rfl (hb hby d21_12) rfl  (X0.ldcInt hx hown (mvT hZ (hw _ (om 99 rfl))) (g := (mkF m 13 #[.val (.int (4 : Int32))] [(.int (4 : Int32))])) rfl (hb hby d21_13) _ (XS.icmpYes X0.here hx rfl (pc0 := 15) (pc' := 55) rfl (hb hby d21_15) rfl (tlt (by decide)).1 (by decide) (by decide) (XS.iloadN X0.here hx rfl (hb hby d21_55) rfl  (XS.iconst X0.here hx rfl (hb hby d21_56) (XS.ishl X0.here hx rfl (hb hby d21_57) rfl k)))))))) ?_
  obtain ⟨fs, hr, hrun, hended, hW, hsame⟩ := X0.leave (v := some (.int (8 : Int32))) (fun h => by rw [Bd.returns] at h; cases h)
  exact Goes.leaf (own_retI X0 hx Bd.returns (hb hby d21_58) hr) hrun hended ⟨_, _, rfl, by show Qnl4 Z  h0 n0 _ s₁.heap _; rw [e0]; exact ⟨rfl, N0, rfl⟩, ⟨_, rfl⟩, hW, hsame.mono (by decide) (by decide)⟩
theorem ef_nf4 (m : MethodId) (x0 : Int32) : entryFrame m #[(.int x0)] 1 = mkF m 0 #[.val (.int x0)] [] := by first | (simp [entryFrame, mkF, argsToLocals, Value.category]; done) | rfl
def Qnf4 (Z : State)   (h0 : Heap) (n0 : Nat) (v : Option Value) (h : Heap) (L : List Loc) : Prop := ∃ (b : Addr) (kb : ClassId), v = some (.ref b) ∧ Fr n0 L ∧ Keep h0 h [] ∧ n0 ≤ b ∧ h0.size ≤ b ∧ Arv Z h b kb .byte (8 : Int32) [(.int (0 : Int32)), (.int (0 : Int32)), (.int (0 : Int32)), (.int (0 : Int32)), (.int (0 : Int32)), (.int (0 : Int32)), (.int (0 : Int32)), (.int (0 : Int32))] (.int (0 : Int32))
set_option maxRecDepth 65536 in
set_option maxHeartbeats 40000000 in
theorem rmnf4 (l : Launch) (Z : State) (a0 : Array Value) (hw : ∀ d ∈ tables_1, d.before a0 Z = true) (ws : List Jvm.Cond)   (h0 : Heap) (n0 : Nat) (Z0 : n0 ≤ h0.size) (X00 : Old Z n0 h0) :
    MetFree l (⟨"java/lang/StringUTF16", "newBytesFor", "(I)[B"⟩ : MethodName) (head1 (Jvm.Cond.code (⟨"java/lang/StringUTF16", "newBytesFor", "(I)[B"⟩ : MethodName) jdk_52_method_2_code 1 (some (.array .byte)) :: ws) ({ frames := 1, cells := 1, slots := 8, locals := 12 } : Room)) (fun aa U => aa = #[(.int (4 : Int32))] ∧ Z.Warmed39 U.vm ∧ U.heap = h0) (fun _ _ _ _ _ => True) (fun _ U oo U' => ∃ vv LL, oo = .returned vv ∧ Qnf4 Z  h0 n0 vv U'.heap LL ∧ FrameEnd U oo U' LL ({ frames := 1, cells := 1, slots := 8, locals := 12 } : Room).cells ({ frames := 1, cells := 1, slots := 8, locals := 12 } : Room).slots) := by
  refine MetFree.of_bodySF (plainFor_of_name pn_20) hisR ?_
  intro p e s m args below meth c s₁ Bd hml0 hP hK
  obtain ⟨rfl, hZ, hh⟩ := hP
  have hx := Bd.exec
  have hby := Bd.bytes
  have hml : c.maxLocals = 1 := hml0
  have hown : s.vm.findClass "java/lang/StringUTF16" = some m.cls := findClass_of_methodNamed Bd.named
  have hnm := (name_of_methodNamed Bd.named Bd.method).1
  have X0 : Stand p l e ({ frames := 1, cells := 1, slots := 8, locals := 12 } : Room) s m #[(.int (4 : Int32))] below meth c s₁ [] 0 0 := Stand.of_body Bd
  have e0 : s₁.heap = h0 := by rw [← hh, Bd.state]; rfl
  have N0 := Fr.nil n0
  show Goes p e below _ (s₁.setTop (entryFrame m #[(.int (4 : Int32))] 1))
  refine Goes.on (B := s₁.setTop (mkF m 0 #[.val (.int (4 : Int32))] [])) (fun t k => castTop (ef_nf4 m (4 : Int32)) k) ?_
  refine Goes.on (B := s₁.setTop (mkF m 1 #[.val (.int (4 : Int32))] [(.int (4 : Int32))])) (fun _ k => XS.iloadN X0.here hx rfl (hb hby d20_0) rfl  k) ?_
  obtain ⟨_, _, ⟨T1, L1, k1, n1⟩, -, X1, ⟨Lc1, hQ1, l1, y1, z1⟩, st1⟩ := Jvm.LawKit.callS X0 hx (y := (⟨"java/lang/StringUTF16", "newBytesLength", "(I)I"⟩ : MethodName)) hown (mvT hZ (hw _ (om 96 rfl))) (mvT hZ (hw _ (om 97 rfl))) (mvT hZ (hw _ (om 51 rfl))) (mvT hZ (hw _ (om 98 rfl))) (by decide) (backOf (W := 0) (rmnl4 l Z a0 hw []  h0 n0 Z0) hZ (hw _ (om 98 rfl)) (hw _ (om 51 rfl)) (by decide) (by decide)) (g := (mkF m 1 #[.val (.int (4 : Int32))] [(.int (4 : Int32))])) rfl (by rw [hml]; rfl) (argsL := [(.int (4 : Int32))]) (rest := []) (lenOf pd_20__I_I rfl) rfl (by show 2 * 0 + _ ≤ _; exact Nat.le_of_eq rfl) (hb hby d20_1) (fun _ _ => ⟨rfl, e0, (by decide : 0 + 0 ≤ _), (by decide : 0 + 0 ≤ _)⟩)
  dsimp only [Pt.U, Pt.locs, Pt.cells, Pt.slots] at X1 l1 y1 z1 st1 hQ1
  subst l1 y1 z1
  obtain ⟨rfl, Nq1, eh1⟩ := hQ1
  have N1 := Fr.app N0 Nq1
  refine Goes.on (B := T1.setTop (mkF m 4 #[.val (.int (4 : Int32))] [(.int (8 : Int32))])) (fun t k => st1 t k) ?_
  obtain ⟨T2, h2, k2, X2, e2, E2, A2, st2⟩ := newP X1 hx hZ (hw _ (om 23 rfl)) eh1 (g := (mkF m 4 #[.val (.int (4 : Int32))] [(.int (8 : Int32))])) rfl (hb hby d20_4) rfl (by decide) (cap := 8) (by decide) (by decide) (by decide) (by decide)
  obtain ⟨b2, g2⟩ : ∃ z, z = h0.size := ⟨_, rfl⟩
  rw [← g2] at A2 st2
  have f3 := X00.ext E2
  have z4 : n0 ≤ h2.size := Nat.le_trans Z0 E2.1
  have K5 : Keep h0 h2 [] := (Keep.refl h0 []).ext E2
  have g_b2 : n0 ≤ b2 := Nat.le_trans Z0 (Nat.le_of_eq g2.symm)
  have sz_b2 : h0.size ≤ b2 := Nat.le_trans (Keep.refl h0 []).1 (Nat.le_of_eq g2.symm)
  have V2 : Arv Z h2 b2 k2 .byte (8 : Int32) [(.int (0 : Int32)), (.int (0 : Int32)), (.int (0 : Int32)), (.int (0 : Int32)), (.int (0 : Int32)), (.int (0 : Int32)), (.int (0 : Int32)), (.int (0 : Int32))] (.int (0 : Int32)) := (Arv.new A2 (by decide)).pad (pad_rep [] (.int (0 : Int32)) 8)
  refine Goes.on (B := T2.setTop (mkF m 6 #[.val (.int (4 : Int32))] [(.ref b2)])) (fun t k => st2 t k) ?_
  obtain ⟨fs, hr, hrun, hended, hW, hsame⟩ := X2.leave (v := some (.ref b2)) (fun h => by rw [Bd.returns] at h; cases h)
  exact Goes.leaf (own_retR X2 hx Bd.returns rfl rfl (hb hby d20_6) hr) hrun hended ⟨_, _, rfl, by show Qnf4 Z  h0 n0 _ T2.heap _; rw [e2]; exact ⟨b2, _, rfl, N1, K5, g_b2, sz_b2, V2⟩, ⟨_, rfl⟩, hW, hsame.mono (by decide) (by decide)⟩
theorem ef_tb4 (m : MethodId) (x0 : Addr) (x1 : Int32) (x2 : Int32) : entryFrame m #[(.ref x0), (.int x1), (.int x2)] 5 = mkF m 0 #[.val (.ref x0), .val (.int x1), .val (.int x2), .unset, .unset] [] := by first | (simp [entryFrame, mkF, argsToLocals, Value.category]; done) | rfl
def Qtb4 (Z : State) (a : Addr) (kC : ClassId) (c0 c1 c2 c3 : Int32) (GA : Int32) (GB : Value) (h0 : Heap) (n0 : Nat) (v : Option Value) (h : Heap) (L : List Loc) : Prop := ∃ (b : Addr) (kb : ClassId), v = some (.ref b) ∧ Fr n0 L ∧ Keep h0 h [] ∧ n0 ≤ b ∧ h0.size ≤ b ∧ Arv Z h b kb .byte (8 : Int32) [(.int (bA c0)), (.int (bB c0)), (.int (bA c1)), (.int (bB c1)), (.int (bA c2)), (.int (bB c2)), (.int (bA c3)), (.int (bB c3))] (.int (0 : Int32))
set_option maxRecDepth 65536 in
set_option maxHeartbeats 40000000 in
theorem rmtb4 (l : Launch) (Z : State) (a0 : Array Value) (hw : ∀ d ∈ tables_1, d.before a0 Z = true) (ws : List Jvm.Cond) (a : Addr) (kC : ClassId) (c0 c1 c2 c3 : Int32) (GA : Int32) (GB : Value) (h0 : Heap) (n0 : Nat) (Z0 : n0 ≤ h0.size) (SS : own_St Z GA GB) (X00 : Old Z n0 h0) (AC : Arv Z h0 a kC .char (4 : Int32) [(.int c0), (.int c1), (.int c2), (.int c3)] (.int (0 : Int32))) :
    MetFree l (⟨"java/lang/StringUTF16", "toBytes", "([CII)[B"⟩ : MethodName) (head1 (Jvm.Cond.code (⟨"java/lang/StringUTF16", "toBytes", "([CII)[B"⟩ : MethodName) jdk_52_method_14_code 5 (some (.array .byte)) :: ws) ({ frames := 2, cells := 1, slots := 8, locals := 26 } : Room)) (fun aa U => aa = #[(.ref a), (.int (0 : Int32)), (.int (4 : Int32))] ∧ Z.Warmed39 U.vm ∧ U.heap = h0) (fun _ _ _ _ _ => True) (fun _ U oo U' => ∃ vv LL, oo = .returned vv ∧ Qtb4 Z a kC c0 c1 c2 c3 GA GB h0 n0 vv U'.heap LL ∧ FrameEnd U oo U' LL ({ frames := 2, cells := 1, slots := 8, locals := 26 } : Room).cells ({ frames := 2, cells := 1, slots := 8, locals := 26 } : Room).slots) := by
  refine MetFree.of_bodySF (plainFor_of_name pn_19) hisR ?_
  intro p e s m args below meth c s₁ Bd hml0 hP hK
  obtain ⟨rfl, hZ, hh⟩ := hP
  have hx := Bd.exec
  have hby := Bd.bytes
  have hml : c.maxLocals = 5 := hml0
  have hown : s.vm.findClass "java/lang/StringUTF16" = some m.cls := findClass_of_methodNamed Bd.named
  have hnm := (name_of_methodNamed Bd.named Bd.method).1
  have X0 : Stand p l e ({ frames := 2, cells := 1, slots := 8, locals := 26 } : Room) s m #[(.ref a), (.int (0 : Int32)), (.int (4 : Int32))] below meth c s₁ [] 0 0 := Stand.of_body Bd
  have e0 : s₁.heap = h0 := by rw [← hh, Bd.state]; rfl
  have N0 := Fr.nil n0
  show Goes p e below _ (s₁.setTop (entryFrame m #[(.ref a), (.int (0 : Int32)), (.int (4 : Int32))] 5))
  refine Goes.on (B := s₁.setTop (mkF m 0 #[.val (.ref a), .val (.int (0 : Int32)), .val (.int (4 : Int32)), .unset, .unset] [])) (fun t k => castTop (ef_tb4 m a (0 : Int32) (4 : Int32)) k) ?_
  refine Goes.on (B := s₁.setTop (mkF m 1 #[.val (.ref a), .val (.int (0 : Int32)), .val (.int (4 : Int32)), .unset, .unset] [(.int (4 : Int32))])) (fun _ k => XS.iloadN X0.here hx rfl (hb hby d19_0) rfl  k) ?_
  obtain ⟨_, _, ⟨T1, L1, k1, n1⟩, -, X1, ⟨Lc1, hQ1, l1, y1, z1⟩, st1⟩ := Jvm.LawKit.callS X0 hx (y := (⟨"java/lang/StringUTF16", "newBytesFor", "(I)[B"⟩ : MethodName)) hown (mvT hZ (hw _ (om 93 rfl))) (mvT hZ (hw _ (om 94 rfl))) (mvT hZ (hw _ (om 51 rfl))) (mvT hZ (hw _ (om 95 rfl))) (by decide) (backOf (W := 0) (rmnf4 l Z a0 hw []  h0 n0 Z0 X00) hZ (hw _ (om 95 rfl)) (hw _ (om 51 rfl)) (by decide) (by decide)) (g := (mkF m 1 #[.val (.ref a), .val (.int (0 : Int32)), .val (.int (4 : Int32)), .unset, .unset] [(.int (4 : Int32))])) rfl (by rw [hml]; rfl) (argsL := [(.int (4 : Int32))]) (rest := []) (lenOf pd_19__I__B rfl) rfl (by show 2 * 0 + _ ≤ _; exact Nat.le_of_eq rfl) (hb hby d19_1) (fun _ _ => ⟨rfl, e0, (by decide : 0 + 1 ≤ _), (by decide : 0 + 8 ≤ _)⟩)
  dsimp only [Pt.U, Pt.locs, Pt.cells, Pt.slots] at X1 l1 y1 z1 st1 hQ1
  subst l1 y1 z1
  obtain ⟨b1, kb1, rfl, Nq1, Kq1, g_b1, sq_b1, Vq1⟩ := hQ1
  obtain ⟨h1, eh1⟩ : ∃ h, T1.heap = h := ⟨_, rfl⟩
  rw [eh1] at Kq1 Vq1
  have ne_a_b1 : a ≠ b1 := Nat.ne_of_lt (Nat.lt_of_lt_of_le AC.lt sq_b1)
  have f2 := X00.keep Kq1 (all0)
  have f3 := AC.keep Kq1 nin0
  have z4 : n0 ≤ h1.size := Nat.le_trans Z0 Kq1.1
  have K5 : Keep h0 h1 [] := (Keep.refl h0 []).trans Kq1 all0
  have sz_b1 : h0.size ≤ b1 := Nat.le_trans (Keep.refl h0 []).1 sq_b1
  have N1 := Fr.app N0 Nq1
  refine Goes.on (B := T1.setTop (mkF m 4 #[.val (.ref a), .val (.int (0 : Int32)), .val (.int (4 : Int32)), .unset, .unset] [(.ref b1)])) (fun t k => st1 t k) ?_
  refine Goes.on (B := T1.setTop (mkF m 17 #[.val (.ref a), .val (.int (0 : Int32)), .val (.int (4 : Int32)), .val (.ref b1), .val (.int (0 : Int32))] [(.int (0 : Int32)), (.ref b1)])) (fun _ k => XS.astoreN X1.here hx rfl (hb hby d19_4) rfl rfl (l' := #[.val (.ref a), .val (.int (0 : Int32)), .val (.int (4 : Int32)), .val (.ref b1), .unset]) rfl (XS.iconst X1.here hx rfl (hb hby d19_5) (XS.istore X1.here hx rfl (hb hby d19_6) rfl (l' := #[.val (.ref a), .val (.int (0 : Int32)), .val (.int (4 : Int32)), .val (.ref b1), .val (.int (0 : Int32))]) rfl (XS.iload X1.here hx rfl (hb hby d19_8) rfl  (XS.iloadN X1.here hx rfl (hb hby d19_10) rfl  (XS.icmpNo X1.here hx rfl (hb hby d19_11) rfl (tlt (by decide)).2.1 (XS.aloadN X1.here hx rfl (hb hby d19_14) rfl rfl  (XS.iload X1.here hx rfl (hb hby d19_15) rfl  k)))))))) ?_
  refine Goes.on (B := T1.setTop (mkF m 19 #[.val (.ref a), .val (.int (0 : Int32)), .val (.int (4 : Int32)), .val (.ref b1), .val (.int (0 : Int32))] [(.int (0 : Int32)), (.ref a), (.int (0 : Int32)), (.ref b1)])) (fun _ k => XS.aloadN X1.here hx rfl (hb hby d19_17) rfl rfl  (XS.iloadN X1.here hx rfl (hb hby d19_18) rfl  k)) ?_
  obtain ⟨cl6, Ar6, q6, S6, Nn6, H6, G6⟩ := id f3
  have hin6 : ¬ ((0 : Int32) < 0 ∨ cl6.slots.size ≤ ((0 : Int32)).toNatClampNeg) := inb_of S6 ⟨by decide, by decide⟩
  refine Goes.on (B := T1.setTop (mkF m 20 #[.val (.ref a), .val (.int (0 : Int32)), .val (.int (4 : Int32)), .val (.ref b1), .val (.int (0 : Int32))] [(.int c0), (.int (0 : Int32)), (.ref b1)])) (fun _ k => X1.caload hx (j := (0 : Int32)) (v := (.int c0)) (by rw [eh1]; exact Ar6.1) (State.isArrayOf_alike hZ.alike Ar6.2.1) Ar6.2.2 hin6 (H6.at hin6 rfl) (g := (mkF m 19 #[.val (.ref a), .val (.int (0 : Int32)), .val (.int (4 : Int32)), .val (.ref b1), .val (.int (0 : Int32))] [(.int (0 : Int32)), (.ref a), (.int (0 : Int32)), (.ref b1)])) rfl rfl (hb hby d19_19) _ k) ?_
  obtain ⟨_, _, ⟨T7, L7, k7, n7⟩, -, X7, ⟨Lc7, hQ7, l7, y7, z7⟩, st7⟩ := Jvm.LawKit.callS X1 hx (y := (⟨"java/lang/StringUTF16", "putChar", "([BII)V"⟩ : MethodName)) hown (mvT hZ (hw _ (om 100 rfl))) (mvT hZ (hw _ (om 101 rfl))) (mvT hZ (hw _ (om 51 rfl))) (mvT hZ (hw _ (om 102 rfl))) (by decide) (backOf (W := 0) (rmpc l Z a0 hw [] b1 (0 : Int32) c0 kb1 (8 : Int32) [(.int (0 : Int32)), (.int (0 : Int32)), (.int (0 : Int32)), (.int (0 : Int32)), (.int (0 : Int32)), (.int (0 : Int32)), (.int (0 : Int32)), (.int (0 : Int32))] GA GB h1 n0 z4 SS f2 Vq1 g_b1 ⟨by decide, by decide⟩ ⟨by decide, by decide⟩ (by first | decide | (simp only [List.length_cons, List.length_nil]; decide)) (by first | decide | (simp only [List.length_cons, List.length_nil]; decide))) hZ (hw _ (om 102 rfl)) (hw _ (om 51 rfl)) (by decide) (by decide)) (g := (mkF m 20 #[.val (.ref a), .val (.int (0 : Int32)), .val (.int (4 : Int32)), .val (.ref b1), .val (.int (0 : Int32))] [(.int c0), (.int (0 : Int32)), (.ref b1)])) rfl (by rw [hml]; rfl) (argsL := [(.ref b1), (.int (0 : Int32)), (.int c0)]) (rest := []) (lenOf pd_19___BII_V rfl) rfl (by show 2 * 0 + _ ≤ _; exact Nat.le_of_eq rfl) (hb hby d19_20) (fun _ _ => ⟨rfl, eh1, (by decide : 1 + 0 ≤ _), (by decide : 8 + 0 ≤ _)⟩)
  dsimp only [Pt.U, Pt.locs, Pt.cells, Pt.slots] at X7 l7 y7 z7 st7 hQ7
  subst l7 y7 z7
  obtain ⟨rfl, Nq7, Kq7, Vp7⟩ := hQ7
  obtain ⟨h7, eh7⟩ : ∃ h, T7.heap = h := ⟨_, rfl⟩
  rw [eh7] at Kq7 Vp7
  have f8 := f2.keep Kq7 (allS g_b1 all0)
  have f9 := f3.keep Kq7 (ninS ne_a_b1 nin0)
  have z10 : n0 ≤ h7.size := Nat.le_trans z4 Kq7.1
  have K11 : Keep h0 h7 [] := K5.trans Kq7 (allS (Or.inr sz_b1) all0)
  have Vq7 : Arv Z h7 b1 kb1 .byte (8 : Int32) [(.int (bA c0)), (.int (bB c0)), (.int (0 : Int32)), (.int (0 : Int32)), (.int (0 : Int32)), (.int (0 : Int32)), (.int (0 : Int32)), (.int (0 : Int32))] (.int (0 : Int32)) := Vp7
  have N7 := Fr.app N1 Nq7
  refine Goes.on (B := T7.setTop (mkF m 23 #[.val (.ref a), .val (.int (0 : Int32)), .val (.int (4 : Int32)), .val (.ref b1), .val (.int (0 : Int32))] [])) (fun t k => st7 t k) ?_
  refine Goes.on (B := T7.setTop (mkF m 17 #[.val (.ref a), .val (.int (1 : Int32)), .val (.int (4 : Int32)), .val (.ref b1), .val (.int (1 : Int32))] [(.int (1 : Int32)), (.ref b1)])) (fun _ k => XS.iinc X7.here hx rfl (hb hby d19_23) rfl (l' := #[.val (.ref a), .val (.int (1 : Int32)), .val (.int (4 : Int32)), .val (.ref b1), .val (.int (0 : Int32))]) rfl (XS.iinc X7.here hx rfl (hb hby d19_26) rfl (l' := #[.val (.ref a), .val (.int (1 : Int32)), .val (.int (4 : Int32)), .val (.ref b1), .val (.int (1 : Int32))]) rfl (XS.goto X7.here hx rfl (pc0 := 29) (pc' := 8) rfl (hb hby d19_29) (by decide) (by decide) (XS.iload X7.here hx rfl (hb hby d19_8) rfl  (XS.iloadN X7.here hx rfl (hb hby d19_10) rfl  (XS.icmpNo X7.here hx rfl (hb hby d19_11) rfl (tlt (by decide)).2.1 (XS.aloadN X7.here hx rfl (hb hby d19_14) rfl rfl  (XS.iload X7.here hx rfl (hb hby d19_15) rfl  k)))))))) ?_
  refine Goes.on (B := T7.setTop (mkF m 19 #[.val (.ref a), .val (.int (1 : Int32)), .val (.int (4 : Int32)), .val (.ref b1), .val (.int (1 : Int32))] [(.int (1 : Int32)), (.ref a), (.int (1 : Int32)), (.ref b1)])) (fun _ k => XS.aloadN X7.here hx rfl (hb hby d19_17) rfl rfl  (XS.iloadN X7.here hx rfl (hb hby d19_18) rfl  k)) ?_
  obtain ⟨cl12, Ar12, q12, S12, Nn12, H12, G12⟩ := id f9
  have hin12 : ¬ ((1 : Int32) < 0 ∨ cl12.slots.size ≤ ((1 : Int32)).toNatClampNeg) := inb_of S12 ⟨by decide, by decide⟩
  refine Goes.on (B := T7.setTop (mkF m 20 #[.val (.ref a), .val (.int (1 : Int32)), .val (.int (4 : Int32)), .val (.ref b1), .val (.int (1 : Int32))] [(.int c1), (.int (1 : Int32)), (.ref b1)])) (fun _ k => X7.caload hx (j := (1 : Int32)) (v := (.int c1)) (by rw [eh7]; exact Ar12.1) (State.isArrayOf_alike hZ.alike Ar12.2.1) Ar12.2.2 hin12 (H12.at hin12 rfl) (g := (mkF m 19 #[.val (.ref a), .val (.int (1 : Int32)), .val (.int (4 : Int32)), .val (.ref b1), .val (.int (1 : Int32))] [(.int (1 : Int32)), (.ref a), (.int (1 : Int32)), (.ref b1)])) rfl rfl (hb hby d19_19) _ k) ?_
  obtain ⟨_, _, ⟨T13, L13, k13, n13⟩, -, X13, ⟨Lc13, hQ13, l13, y13, z13⟩, st13⟩ := Jvm.LawKit.callS X7 hx (y := (⟨"java/lang/StringUTF16", "putChar", "([BII)V"⟩ : MethodName)) hown (mvT hZ (hw _ (om 100 rfl))) (mvT hZ (hw _ (om 101 rfl))) (mvT hZ (hw _ (om 51 rfl))) (mvT hZ (hw _ (om 102 rfl))) (by decide) (backOf (W := 0) (rmpc l Z a0 hw [] b1 (1 : Int32) c1 kb1 (8 : Int32) [(.int (bA c0)), (.int (bB c0)), (.int (0 : Int32)), (.int (0 : Int32)), (.int (0 : Int32)), (.int (0 : Int32)), (.int (0 : Int32)), (.int (0 : Int32))] GA GB h7 n0 z10 SS f8 Vq7 g_b1 ⟨by decide, by decide⟩ ⟨by decide, by decide⟩ (by first | decide | (simp only [List.length_cons, List.length_nil]; decide)) (by first | decide | (simp only [List.length_cons, List.length_nil]; decide))) hZ (hw _ (om 102 rfl)) (hw _ (om 51 rfl)) (by decide) (by decide)) (g := (mkF m 20 #[.val (.ref a), .val (.int (1 : Int32)), .val (.int (4 : Int32)), .val (.ref b1), .val (.int (1 : Int32))] [(.int c1), (.int (1 : Int32)), (.ref b1)])) rfl (by rw [hml]; rfl) (argsL := [(.ref b1), (.int (1 : Int32)), (.int c1)]) (rest := []) (lenOf pd_19___BII_V rfl) rfl (by show 2 * 0 + _ ≤ _; exact Nat.le_of_eq rfl) (hb hby d19_20) (fun _ _ => ⟨rfl, eh7, (by decide : 1 + 0 ≤ _), (by decide : 8 + 0 ≤ _)⟩)
  dsimp only [Pt.U, Pt.locs, Pt.cells, Pt.slots] at X13 l13 y13 z13 st13 hQ13
  subst l13 y13 z13
  obtain ⟨rfl, Nq13, Kq13, Vp13⟩ := hQ13
  obtain ⟨h13, eh13⟩ : ∃ h, T13.heap = h := ⟨_, rfl⟩
  rw [eh13] at Kq13 Vp13
  have f14 := f8.keep Kq13 (allS g_b1 all0)
  have f15 := f9.keep Kq13 (ninS ne_a_b1 nin0)
  have z16 : n0 ≤ h13.size := Nat.le_trans z10 Kq13.1
  have K17 : Keep h0 h13 [] := K11.trans Kq13 (allS (Or.inr sz_b1) all0)
  have Vq13 : Arv Z h13 b1 kb1 .byte (8 : Int32) [(.int (bA c0)), (.int (bB c0)), (.int (bA c1)), (.int (bB c1)), (.int (0 : Int32)), (.int (0 : Int32)), (.int (0 : Int32)), (.int (0 : Int32))] (.int (0 : Int32)) := Vp13
  have N13 := Fr.app N7 Nq13
  refine Goes.on (B := T13.setTop (mkF m 23 #[.val (.ref a), .val (.int (1 : Int32)), .val (.int (4 : Int32)), .val (.ref b1), .val (.int (1 : Int32))] [])) (fun t k => st13 t k) ?_
  refine Goes.on (B := T13.setTop (mkF m 17 #[.val (.ref a), .val (.int (2 : Int32)), .val (.int (4 : Int32)), .val (.ref b1), .val (.int (2 : Int32))] [(.int (2 : Int32)), (.ref b1)])) (fun _ k => XS.iinc X13.here hx rfl (hb hby d19_23) rfl (l' := #[.val (.ref a), .val (.int (2 : Int32)), .val (.int (4 : Int32)), .val (.ref b1), .val (.int (1 : Int32))]) rfl (XS.iinc X13.here hx rfl (hb hby d19_26) rfl (l' := #[.val (.ref a), .val (.int (2 : Int32)), .val (.int (4 : Int32)), .val (.ref b1), .val (.int (2 : Int32))]) rfl (XS.goto X13.here hx rfl (pc0 := 29) (pc' := 8) rfl (hb hby d19_29) (by decide) (by decide) (XS.iload X13.here hx rfl (hb hby d19_8) rfl  (XS.iloadN X13.here hx rfl (hb hby d19_10) rfl  (XS.icmpNo X13.here hx rfl (hb hby d19_11) rfl (tlt (by decide)).2.1 (XS.aloadN X13.here hx rfl (hb hby d19_14) rfl rfl  (XS.iload X13.here hx rfl (hb hby d19_15) rfl  k)))))))) ?_
  refine Goes.on (B := T13.setTop (mkF m 19 #[.val (.ref a), .val (.int (2 : Int32)), .val (.int (4 : Int32)), .val (.ref b1), .val (.int (2 : Int32))] [(.int (2 : Int32)), (.ref a), (.int (2 : Int32)), (.ref b1)])) (fun _ k => XS.aloadN X13.here hx rfl (hb hby d19_17) rfl rfl  (XS.iloadN X13.here hx rfl (hb hby d19_18) rfl  k)) ?_
  obtain ⟨cl18, Ar18, q18, S18, Nn18, H18, G18⟩ := id f15
  have hin18 : ¬ ((2 : Int32) < 0 ∨ cl18.slots.size ≤ ((2 : Int32)).toNatClampNeg) := inb_of S18 ⟨by decide, by decide⟩
  refine Goes.on (B := T13.setTop (mkF m 20 #[.val (.ref a), .val (.int (2 : Int32)), .val (.int (4 : Int32)), .val (.ref b1), .val (.int (2 : Int32))] [(.int c2), (.int (2 : Int32)), (.ref b1)])) (fun _ k => X13.caload hx (j := (2 : Int32)) (v := (.int c2)) (by rw [eh13]; exact Ar18.1) (State.isArrayOf_alike hZ.alike Ar18.2.1) Ar18.2.2 hin18 (H18.at hin18 rfl) (g := (mkF m 19 #[.val (.ref a), .val (.int (2 : Int32)), .val (.int (4 : Int32)), .val (.ref b1), .val (.int (2 : Int32))] [(.int (2 : Int32)), (.ref a), (.int (2 : Int32)), (.ref b1)])) rfl rfl (hb hby d19_19) _ k) ?_
  obtain ⟨_, _, ⟨T19, L19, k19, n19⟩, -, X19, ⟨Lc19, hQ19, l19, y19, z19⟩, st19⟩ := Jvm.LawKit.callS X13 hx (y := (⟨"java/lang/StringUTF16", "putChar", "([BII)V"⟩ : MethodName)) hown (mvT hZ (hw _ (om 100 rfl))) (mvT hZ (hw _ (om 101 rfl))) (mvT hZ (hw _ (om 51 rfl))) (mvT hZ (hw _ (om 102 rfl))) (by decide) (backOf (W := 0) (rmpc l Z a0 hw [] b1 (2 : Int32) c2 kb1 (8 : Int32) [(.int (bA c0)), (.int (bB c0)), (.int (bA c1)), (.int (bB c1)), (.int (0 : Int32)), (.int (0 : Int32)), (.int (0 : Int32)), (.int (0 : Int32))] GA GB h13 n0 z16 SS f14 Vq13 g_b1 ⟨by decide, by decide⟩ ⟨by decide, by decide⟩ (by first | decide | (simp only [List.length_cons, List.length_nil]; decide)) (by first | decide | (simp only [List.length_cons, List.length_nil]; decide))) hZ (hw _ (om 102 rfl)) (hw _ (om 51 rfl)) (by decide) (by decide)) (g := (mkF m 20 #[.val (.ref a), .val (.int (2 : Int32)), .val (.int (4 : Int32)), .val (.ref b1), .val (.int (2 : Int32))] [(.int c2), (.int (2 : Int32)), (.ref b1)])) rfl (by rw [hml]; rfl) (argsL := [(.ref b1), (.int (2 : Int32)), (.int c2)]) (rest := []) (lenOf pd_19___BII_V rfl) rfl (by show 2 * 0 + _ ≤ _; exact Nat.le_of_eq rfl) (hb hby d19_20) (fun _ _ => ⟨rfl, eh13, (by decide : 1 + 0 ≤ _), (by decide : 8 + 0 ≤ _)⟩)
  dsimp only [Pt.U, Pt.locs, Pt.cells, Pt.slots] at X19 l19 y19 z19 st19 hQ19
  subst l19 y19 z19
  obtain ⟨rfl, Nq19, Kq19, Vp19⟩ := hQ19
  obtain ⟨h19, eh19⟩ : ∃ h, T19.heap = h := ⟨_, rfl⟩
  rw [eh19] at Kq19 Vp19
  have f20 := f14.keep Kq19 (allS g_b1 all0)
  have f21 := f15.keep Kq19 (ninS ne_a_b1 nin0)
  have z22 : n0 ≤ h19.size := Nat.le_trans z16 Kq19.1
  have K23 : Keep h0 h19 [] := K17.trans Kq19 (allS (Or.inr sz_b1) all0)
  have Vq19 : Arv Z h19 b1 kb1 .byte (8 : Int32) [(.int (bA c0)), (.int (bB c0)), (.int (bA c1)), (.int (bB c1)), (.int (bA c2)), (.int (bB c2)), (.int (0 : Int32)), (.int (0 : Int32))] (.int (0 : Int32)) := Vp19
  have N19 := Fr.app N13 Nq19
  refine Goes.on (B := T19.setTop (mkF m 23 #[.val (.ref a), .val (.int (2 : Int32)), .val (.int (4 : Int32)), .val (.ref b1), .val (.int (2 : Int32))] [])) (fun t k => st19 t k) ?_
  refine Goes.on (B := T19.setTop (mkF m 17 #[.val (.ref a), .val (.int (3 : Int32)), .val (.int (4 : Int32)), .val (.ref b1), .val (.int (3 : Int32))] [(.int (3 : Int32)), (.ref b1)])) (fun _ k => XS.iinc X19.here hx rfl (hb hby d19_23) rfl (l' := #[.val (.ref a), .val (.int (3 : Int32)), .val (.int (4 : Int32)), .val (.ref b1), .val (.int (2 : Int32))]) rfl (XS.iinc X19.here hx rfl (hb hby d19_26) rfl (l' := #[.val (.ref a), .val (.int (3 : Int32)), .val (.int (4 : Int32)), .val (.ref b1), .val (.int (3 : Int32))]) rfl (XS.goto X19.here hx rfl (pc0 := 29) (pc' := 8) rfl (hb hby d19_29) (by decide) (by decide) (XS.iload X19.here hx rfl (hb hby d19_8) rfl  (XS.iloadN X19.here hx rfl (hb hby d19_10) rfl  (XS.icmpNo X19.here hx rfl (hb hby d19_11) rfl (tlt (by decide)).2.1 (XS.aloadN X19.here hx rfl (hb hby d19_14) rfl rfl  (XS.iload X19.here hx rfl (hb hby d19_15) rfl  k)))))))) ?_
  refine Goes.on (B := T19.setTop (mkF m 19 #[.val (.ref a), .val (.int (3 : Int32)), .val (.int (4 : Int32)), .val (.ref b1), .val (.int (3 : Int32))] [(.int (3 : Int32)), (.ref a), (.int (3 : Int32)), (.ref b1)])) (fun _ k => XS.aloadN X19.here hx rfl (hb hby d19_17) rfl rfl  (XS.iloadN X19.here hx rfl (hb hby d19_18) rfl  k)) ?_
  obtain ⟨cl24, Ar24, q24, S24, Nn24, H24, G24⟩ := id f21
  have hin24 : ¬ ((3 : Int32) < 0 ∨ cl24.slots.size ≤ ((3 : Int32)).toNatClampNeg) := inb_of S24 ⟨by decide, by decide⟩
  refine Goes.on (B := T19.setTop (mkF m 20 #[.val (.ref a), .val (.int (3 : Int32)), .val (.int (4 : Int32)), .val (.ref b1), .val (.int (3 : Int32))] [(.int c3), (.int (3 : Int32)), (.ref b1)])) (fun _ k => X19.caload hx (j := (3 : Int32)) (v := (.int c3)) (by rw [eh19]; exact Ar24.1) (State.isArrayOf_alike hZ.alike Ar24.2.1) Ar24.2.2 hin24 (H24.at hin24 rfl) (g := (mkF m 19 #[.val (.ref a), .val (.int (3 : Int32)), .val (.int (4 : Int32)), .val (.ref b1), .val (.int (3 : Int32))] [(.int (3 : Int32)), (.ref a), (.int (3 : Int32)), (.ref b1)])) rfl rfl (hb hby d19_19) _ k) ?_
  obtain ⟨_, _, ⟨T25, L25, k25, n25⟩, -, X25, ⟨Lc25, hQ25, l25, y25, z25⟩, st25⟩ := Jvm.LawKit.callS X19 hx (y := (⟨"java/lang/StringUTF16", "putChar", "([BII)V"⟩ : MethodName)) hown (mvT hZ (hw _ (om 100 rfl))) (mvT hZ (hw _ (om 101 rfl))) (mvT hZ (hw _ (om 51 rfl))) (mvT hZ (hw _ (om 102 rfl))) (by decide) (backOf (W := 0) (rmpc l Z a0 hw [] b1 (3 : Int32) c3 kb1 (8 : Int32) [(.int (bA c0)), (.int (bB c0)), (.int (bA c1)), (.int (bB c1)), (.int (bA c2)), (.int (bB c2)), (.int (0 : Int32)), (.int (0 : Int32))] GA GB h19 n0 z22 SS f20 Vq19 g_b1 ⟨by decide, by decide⟩ ⟨by decide, by decide⟩ (by first | decide | (simp only [List.length_cons, List.length_nil]; decide)) (by first | decide | (simp only [List.length_cons, List.length_nil]; decide))) hZ (hw _ (om 102 rfl)) (hw _ (om 51 rfl)) (by decide) (by decide)) (g := (mkF m 20 #[.val (.ref a), .val (.int (3 : Int32)), .val (.int (4 : Int32)), .val (.ref b1), .val (.int (3 : Int32))] [(.int c3), (.int (3 : Int32)), (.ref b1)])) rfl (by rw [hml]; rfl) (argsL := [(.ref b1), (.int (3 : Int32)), (.int c3)]) (rest := []) (lenOf pd_19___BII_V rfl) rfl (by show 2 * 0 + _ ≤ _; exact Nat.le_of_eq rfl) (hb hby d19_20) (fun _ _ => ⟨rfl, eh19, (by decide : 1 + 0 ≤ _), (by decide : 8 + 0 ≤ _)⟩)
  dsimp only [Pt.U, Pt.locs, Pt.cells, Pt.slots] at X25 l25 y25 z25 st25 hQ25
  subst l25 y25 z25
  obtain ⟨rfl, Nq25, Kq25, Vp25⟩ := hQ25
  obtain ⟨h25, eh25⟩ : ∃ h, T25.heap = h := ⟨_, rfl⟩
  rw [eh25] at Kq25 Vp25
  have f26 := f20.keep Kq25 (allS g_b1 all0)
  have f27 := f21.keep Kq25 (ninS ne_a_b1 nin0)
  have z28 : n0 ≤ h25.size := Nat.le_trans z22 Kq25.1
  have K29 : Keep h0 h25 [] := K23.trans Kq25 (allS (Or.inr sz_b1) all0)
  have Vq25 : Arv Z h25 b1 kb1 .byte (8 : Int32) [(.int (bA c0)), (.int (bB c0)), (.int (bA c1)), (.int (bB c1)), (.int (bA c2)), (.int (bB c2)), (.int (bA c3)), (.int (bB c3))] (.int (0 : Int32)) := Vp25
  have N25 := Fr.app N19 Nq25
  refine Goes.on (B := T25.setTop (mkF m 23 #[.val (.ref a), .val (.int (3 : Int32)), .val (.int (4 : Int32)), .val (.ref b1), .val (.int (3 : Int32))] [])) (fun t k => st25 t k) ?_
  refine Goes.on (B := T25.setTop (mkF m 33 #[.val (.ref a), .val (.int (4 : Int32)), .val (.int (4 : Int32)), .val (.ref b1), .val (.int (4 : Int32))] [(.ref b1)])) (fun _ k => XS.iinc X25.here hx rfl (hb hby d19_23) rfl (l' := #[.val (.ref a), .val (.int (4 : Int32)), .val (.int (4 : Int32)), .val (.ref b1), .val (.int (3 : Int32))]) rfl (XS.iinc X25.here hx rfl (hb hby d19_26) rfl (l' := #[.val (.ref a), .val (.int (4 : Int32)), .val (.int (4 : Int32)), .val (.ref b1), .val (.int (4 : Int32))]) rfl (XS.goto X25.here hx rfl (pc0 := 29) (pc' := 8) rfl (hb hby d19_29) (by decide) (by decide) (XS.iload X25.here hx rfl (hb hby d19_8) rfl  (XS.iloadN X25.here hx rfl (hb hby d19_10) rfl  (XS.icmpYes X25.here hx rfl (pc0 := 11) (pc' := 32) rfl (hb hby d19_11) rfl (flt (by decide)).2.1 (by decide) (by decide) (XS.aloadN X25.here hx rfl (hb hby d19_32) rfl rfl  k))))))) ?_
  obtain ⟨fs, hr, hrun, hended, hW, hsame⟩ := X25.leave (v := some (.ref b1)) (fun h => by rw [Bd.returns] at h; cases h)
  exact Goes.leaf (own_retR X25 hx Bd.returns rfl rfl (hb hby d19_33) hr) hrun hended ⟨_, _, rfl, by show Qtb4 Z a kC c0 c1 c2 c3 GA GB h0 n0 _ T25.heap _; rw [eh25]; exact ⟨b1, _, rfl, N25, K29, g_b1, sz_b1, Vq25⟩, ⟨_, rfl⟩, hW, hsame.mono (by decide) (by decide)⟩
theorem ef_cI4 (m : MethodId) (x0 : Addr) (x1 : Int32) (x2 : Addr) (x3 : Int32) (x4 : Int32) : entryFrame m #[(.ref x0), (.int x1), (.ref x2), (.int x3), (.int x4)] 7 = mkF m 0 #[.val (.ref x0), .val (.int x1), .val (.ref x2), .val (.int x3), .val (.int x4), .unset, .unset] [] := by first | (simp [entryFrame, mkF, argsToLocals, Value.category]; done) | rfl
def QcI4 (Z : State) (a : Addr) (b : Addr) (kC kB : ClassId) (c0 c1 c2 c3 : Int32) (h0 : Heap) (n0 : Nat) (v : Option Value) (h : Heap) (L : List Loc) : Prop := ∃ (ii y : Int32), v = some (.int ii) ∧ Fr n0 L ∧ Keep h0 h [b] ∧ ¬ ii = (4 : Int32) ∧ (255 : Int32) < y ∧ own_rg y ∧ (¬ (ii <<< ((1 : Int32) &&& 31)) < 0 ∧ (ii <<< ((1 : Int32) &&& 31)) < (8 : Int32)) ∧ (¬ ((ii <<< ((1 : Int32) &&& 31)) + (1 : Int32)) < 0 ∧ ((ii <<< ((1 : Int32) &&& 31)) + (1 : Int32)) < (8 : Int32)) ∧ ([(.int (bA c0)), (.int (bB c0)), (.int (bA c1)), (.int (bB c1)), (.int (bA c2)), (.int (bB c2)), (.int (bA c3)), (.int (bB c3))] : List Value).getD ((ii <<< ((1 : Int32) &&& 31))).toNatClampNeg (.int (0 : Int32)) = (.int (bA y)) ∧ ([(.int (bA c0)), (.int (bB c0)), (.int (bA c1)), (.int (bB c1)), (.int (bA c2)), (.int (bB c2)), (.int (bA c3)), (.int (bB c3))] : List Value).getD (((ii <<< ((1 : Int32) &&& 31)) + (1 : Int32))).toNatClampNeg (.int (0 : Int32)) = (.int (bB y))
set_option maxRecDepth 65536 in
set_option maxHeartbeats 40000000 in
theorem rmcI4 (l : Launch) (Z : State) (a0 : Array Value) (hw : ∀ d ∈ tables_1, d.before a0 Z = true) (ws : List Jvm.Cond) (a : Addr) (b : Addr) (kC kB : ClassId) (c0 c1 c2 c3 : Int32) (h0 : Heap) (n0 : Nat) (Z0 : n0 ≤ h0.size) (X00 : Old Z n0 h0) (AC : Arv Z h0 a kC .char (4 : Int32) [(.int c0), (.int c1), (.int c2), (.int c3)] (.int (0 : Int32))) (AB : Arv Z h0 b kB .byte (4 : Int32) [(.int (0 : Int32)), (.int (0 : Int32)), (.int (0 : Int32)), (.int (0 : Int32))] (.int (0 : Int32))) (gb : n0 ≤ b) (nab : a ≠ b) (r0 : own_rg c0) (r1 : own_rg c1) (r2 : own_rg c2) (r3 : own_rg c3) (hwd : ¬ (¬ (255 : Int32) < c0 ∧ ¬ (255 : Int32) < c1 ∧ ¬ (255 : Int32) < c2 ∧ ¬ (255 : Int32) < c3)) :
    MetFree l (⟨"java/lang/StringUTF16", "compress", "([CI[BII)I"⟩ : MethodName) (head1 (Jvm.Cond.code (⟨"java/lang/StringUTF16", "compress", "([CI[BII)I"⟩ : MethodName) jdk_52_method_21_code 7 (some .int) :: ws) ({ frames := 0, cells := 0, slots := 0, locals := 0 } : Room)) (fun aa U => aa = #[(.ref a), (.int (0 : Int32)), (.ref b), (.int (0 : Int32)), (.int (4 : Int32))] ∧ Z.Warmed39 U.vm ∧ U.heap = h0) (fun _ _ _ _ _ => True) (fun _ U oo U' => ∃ vv LL, oo = .returned vv ∧ QcI4 Z a b kC kB c0 c1 c2 c3 h0 n0 vv U'.heap LL ∧ FrameEnd U oo U' LL ({ frames := 0, cells := 0, slots := 0, locals := 0 } : Room).cells ({ frames := 0, cells := 0, slots := 0, locals := 0 } : Room).slots) := by
  refine MetFree.of_bodySF (plainFor_of_name pn_10) hisR ?_
  intro p e s m args below meth c s₁ Bd hml0 hP hK
  obtain ⟨rfl, hZ, hh⟩ := hP
  have hx := Bd.exec
  have hby := Bd.bytes
  have hml : c.maxLocals = 7 := hml0
  have hown : s.vm.findClass "java/lang/StringUTF16" = some m.cls := findClass_of_methodNamed Bd.named
  have hnm := (name_of_methodNamed Bd.named Bd.method).1
  have X0 : Stand p l e ({ frames := 0, cells := 0, slots := 0, locals := 0 } : Room) s m #[(.ref a), (.int (0 : Int32)), (.ref b), (.int (0 : Int32)), (.int (4 : Int32))] below meth c s₁ [] 0 0 := Stand.of_body Bd
  have e0 : s₁.heap = h0 := by rw [← hh, Bd.state]; rfl
  have N0 := Fr.nil n0
  show Goes p e below _ (s₁.setTop (entryFrame m #[(.ref a), (.int (0 : Int32)), (.ref b), (.int (0 : Int32)), (.int (4 : Int32))] 7))
  refine Goes.on (B := s₁.setTop (mkF m 0 #[.val (.ref a), .val (.int (0 : Int32)), .val (.ref b), .val (.int (0 : Int32)), .val (.int (4 : Int32)), .unset, .unset] [])) (fun t k => castTop (ef_cI4 m a (0 : Int32) b (0 : Int32) (4 : Int32)) k) ?_
  refine Goes.on (B := s₁.setTop (mkF m 12 #[.val (.ref a), .val (.int (0 : Int32)), .val (.ref b), .val (.int (0 : Int32)), .val (.int (4 : Int32)), .val (.int (0 : Int32)), .unset] [(.int (0 : Int32)), (.ref a)])) (fun _ k => XS.iconst X0.here hx rfl (hb hby d10_0) (XS.istore X0.here hx rfl (hb hby d10_1) rfl (l' := #[.val (.ref a), .val (.int (0 : Int32)), .val (.ref b), .val (.int (0 : Int32)), .val (.int (4 : Int32)), .val (.int (0 : Int32)), .unset]) rfl (XS.iload X0.here hx rfl (hb hby d10_3) rfl  (XS.iload X0.here hx rfl (hb hby d10_5) rfl  (XS.icmpNo X0.here hx rfl (hb hby d10_7) rfl (tlt (by decide)).2.1 (XS.aloadN X0.here hx rfl (hb hby d10_10) rfl rfl  (XS.iloadN X0.here hx rfl (hb hby d10_11) rfl  k))))))) ?_
  obtain ⟨cl1, Ar1, q1, S1, Nn1, H1, G1⟩ := id AC
  have hin1 : ¬ ((0 : Int32) < 0 ∨ cl1.slots.size ≤ ((0 : Int32)).toNatClampNeg) := inb_of S1 ⟨by decide, by decide⟩
  refine Goes.on (B := s₁.setTop (mkF m 20 #[.val (.ref a), .val (.int (0 : Int32)), .val (.ref b), .val (.int (0 : Int32)), .val (.int (4 : Int32)), .val (.int (0 : Int32)), .val (.int c0)] [(.int (255 : Int32)), (.int c0)])) (fun _ k => X0.caload hx (j := (0 : Int32)) (v := (.int c0)) (by rw [e0]; exact Ar1.1) (State.isArrayOf_alike hZ.alike Ar1.2.1) Ar1.2.2 hin1 (H1.at hin1 rfl) (g := (mkF m 12 #[.val (.ref a), .val (.int (0 : Int32)), .val (.ref b), .val (.int (0 : Int32)), .val (.int (4 : Int32)), .val (.int (0 : Int32)), .unset] [(.int (0 : Int32)), (.ref a)])) rfl rfl (hb hby d10_12) _ (XS.istore X0.here hx rfl (hb hby d10_13) rfl (l' := #[.val (.ref a), .val (.int (0 : Int32)), .val (.ref b), .val (.int (0 : Int32)), .val (.int (4 : Int32)), .val (.int (0 : Int32)), .val (.int c0)]) rfl (XS.iload X0.here hx rfl (hb hby d10_15) rfl  (XS.sipush X0.here hx rfl (hb hby d10_17) k)))) ?_
  by_cases g0 : (255 : Int32) < c0
  · refine Goes.on (B := s₁.setTop (mkF m 25 #[.val (.ref a), .val (.int (0 : Int32)), .val (.ref b), .val (.int (0 : Int32)), .val (.int (4 : Int32)), .val (.int (0 : Int32)), .val (.int c0)] [(.int (0 : Int32))])) (fun _ k => XS.icmpNo X0.here hx rfl (hb hby d10_20) rfl (tlt g0).2.2.2 (XS.iload X0.here hx rfl (hb hby d10_23) rfl  k)) ?_
    obtain ⟨fs, hr, hrun, hended, hW, hsame⟩ := X0.leave (v := some (.int (0 : Int32))) (fun h => by rw [Bd.returns] at h; cases h)
    exact Goes.leaf (own_retI X0 hx Bd.returns (hb hby d10_25) hr) hrun hended ⟨_, _, rfl, by show QcI4 Z a b kC kB c0 c1 c2 c3 h0 n0 _ s₁.heap _; rw [e0]; exact ⟨(0 : Int32), c0, rfl, N0, (Keep.refl h0 [b]), by decide, g0, r0, ⟨by decide, by decide⟩, ⟨by decide, by decide⟩, rfl, rfl⟩, ⟨_, rfl⟩, hW, hsame.mono (by decide) (by decide)⟩
  · refine Goes.on (B := s₁.setTop (mkF m 31 #[.val (.ref a), .val (.int (0 : Int32)), .val (.ref b), .val (.int (0 : Int32)), .val (.int (4 : Int32)), .val (.int (0 : Int32)), .val (.int c0)] [(.int (c0.toInt8.toInt32)), (.int (0 : Int32)), (.ref b)])) (fun _ k => XS.icmpYes X0.here hx rfl (pc0 := 20) (pc' := 26) rfl (hb hby d10_20) rfl (flt g0).2.2.2 (by decide) (by decide) (XS.aloadN X0.here hx rfl (hb hby d10_26) rfl rfl  (XS.iloadN X0.here hx rfl (hb hby d10_27) rfl  (XS.iload X0.here hx rfl (hb hby d10_28) rfl  (XS.i2b X0.here hx rfl (hb hby d10_30) rfl k))))) ?_
    obtain ⟨cl2, Ar2, q2, S2, Nn2, H2, G2⟩ := id AB
    have hin2 : ¬ ((0 : Int32) < 0 ∨ cl2.slots.size ≤ ((0 : Int32)).toNatClampNeg) := inb_of S2 ⟨by decide, by decide⟩
    obtain ⟨T3, h3, X3, e3, W3, st3⟩ := stB X0 hx hZ e0 Ar2 (j := (0 : Int32)) hin2 (g := (mkF m 31 #[.val (.ref a), .val (.int (0 : Int32)), .val (.ref b), .val (.int (0 : Int32)), .val (.int (4 : Int32)), .val (.int (0 : Int32)), .val (.int c0)] [(.int (c0.toInt8.toInt32)), (.int (0 : Int32)), (.ref b)])) rfl rfl (hb hby d10_31)
    have V3 : Arv Z h3 b kB .byte (4 : Int32) [(.int (nar .byte (c0.toInt8.toInt32))), (.int (0 : Int32)), (.int (0 : Int32)), (.int (0 : Int32))] (.int (0 : Int32)) := Arv.set Ar2 q2 S2 Nn2 H2 G2 (fits_nar_byte _) W3 0 rfl (Nat.le_of_ble_eq_true rfl)
    have f4 := X00.wr W3 gb
    have f5 := AC.other W3 nab
    have z6 : n0 ≤ h3.size := Nat.le_trans Z0 (Keep.of_wr W3).1
    have K7 : Keep h0 h3 [b] := (Keep.refl h0 [b]).wr W3 (Or.inl (om 0 rfl))
    have N3 := Fr.snoc X3 N0 gb
    refine Goes.on (B := T3.setTop (mkF m 32 #[.val (.ref a), .val (.int (0 : Int32)), .val (.ref b), .val (.int (0 : Int32)), .val (.int (4 : Int32)), .val (.int (0 : Int32)), .val (.int c0)] [])) (fun t k => st3 t k) ?_
    refine Goes.on (B := T3.setTop (mkF m 11 #[.val (.ref a), .val (.int (1 : Int32)), .val (.ref b), .val (.int (1 : Int32)), .val (.int (4 : Int32)), .val (.int (1 : Int32)), .val (.int c0)] [(.ref a)])) (fun _ k => XS.iinc X3.here hx rfl (hb hby d10_32) rfl (l' := #[.val (.ref a), .val (.int (1 : Int32)), .val (.ref b), .val (.int (0 : Int32)), .val (.int (4 : Int32)), .val (.int (0 : Int32)), .val (.int c0)]) rfl (XS.iinc X3.here hx rfl (hb hby d10_35) rfl (l' := #[.val (.ref a), .val (.int (1 : Int32)), .val (.ref b), .val (.int (1 : Int32)), .val (.int (4 : Int32)), .val (.int (0 : Int32)), .val (.int c0)]) rfl (XS.iinc X3.here hx rfl (hb hby d10_38) rfl (l' := #[.val (.ref a), .val (.int (1 : Int32)), .val (.ref b), .val (.int (1 : Int32)), .val (.int (4 : Int32)), .val (.int (1 : Int32)), .val (.int c0)]) rfl (XS.goto X3.here hx rfl (pc0 := 41) (pc' := 3) rfl (hb hby d10_41) (by decide) (by decide) (XS.iload X3.here hx rfl (hb hby d10_3) rfl  (XS.iload X3.here hx rfl (hb hby d10_5) rfl  (XS.icmpNo X3.here hx rfl (hb hby d10_7) rfl (tlt (by decide)).2.1 (XS.aloadN X3.here hx rfl (hb hby d10_10) rfl rfl  k)))))))) ?_
    refine Goes.on (B := T3.setTop (mkF m 12 #[.val (.ref a), .val (.int (1 : Int32)), .val (.ref b), .val (.int (1 : Int32)), .val (.int (4 : Int32)), .val (.int (1 : Int32)), .val (.int c0)] [(.int (1 : Int32)), (.ref a)])) (fun _ k => XS.iloadN X3.here hx rfl (hb hby d10_11) rfl  k) ?_
    obtain ⟨cl8, Ar8, q8, S8, Nn8, H8, G8⟩ := id f5
    have hin8 : ¬ ((1 : Int32) < 0 ∨ cl8.slots.size ≤ ((1 : Int32)).toNatClampNeg) := inb_of S8 ⟨by decide, by decide⟩
    refine Goes.on (B := T3.setTop (mkF m 20 #[.val (.ref a), .val (.int (1 : Int32)), .val (.ref b), .val (.int (1 : Int32)), .val (.int (4 : Int32)), .val (.int (1 : Int32)), .val (.int c1)] [(.int (255 : Int32)), (.int c1)])) (fun _ k => X3.caload hx (j := (1 : Int32)) (v := (.int c1)) (by rw [e3]; exact Ar8.1) (State.isArrayOf_alike hZ.alike Ar8.2.1) Ar8.2.2 hin8 (H8.at hin8 rfl) (g := (mkF m 12 #[.val (.ref a), .val (.int (1 : Int32)), .val (.ref b), .val (.int (1 : Int32)), .val (.int (4 : Int32)), .val (.int (1 : Int32)), .val (.int c0)] [(.int (1 : Int32)), (.ref a)])) rfl rfl (hb hby d10_12) _ (XS.istore X3.here hx rfl (hb hby d10_13) rfl (l' := #[.val (.ref a), .val (.int (1 : Int32)), .val (.ref b), .val (.int (1 : Int32)), .val (.int (4 : Int32)), .val (.int (1 : Int32)), .val (.int c1)]) rfl (XS.iload X3.here hx rfl (hb hby d10_15) rfl  (XS.sipush X3.here hx rfl (hb hby d10_17) k)))) ?_
    by_cases g1 : (255 : Int32) < c1
    · refine Goes.on (B := T3.setTop (mkF m 25 #[.val (.ref a), .val (.int (1 : Int32)), .val (.ref b), .val (.int (1 : Int32)), .val (.int (4 : Int32)), .val (.int (1 : Int32)), .val (.int c1)] [(.int (1 : Int32))])) (fun _ k => XS.icmpNo X3.here hx rfl (hb hby d10_20) rfl (tlt g1).2.2.2 (XS.iload X3.here hx rfl (hb hby d10_23) rfl  k)) ?_
      obtain ⟨fs, hr, hrun, hended, hW, hsame⟩ := X3.leave (v := some (.int (1 : Int32))) (fun h => by rw [Bd.returns] at h; cases h)
      exact Goes.leaf (own_retI X3 hx Bd.returns (hb hby d10_25) hr) hrun hended ⟨_, _, rfl, by show QcI4 Z a b kC kB c0 c1 c2 c3 h0 n0 _ T3.heap _; rw [e3]; exact ⟨(1 : Int32), c1, rfl, N3, K7, by decide, g1, r1, ⟨by decide, by decide⟩, ⟨by decide, by decide⟩, rfl, rfl⟩, ⟨_, rfl⟩, hW, hsame.mono (by decide) (by decide)⟩
    · refine Goes.on (B := T3.setTop (mkF m 31 #[.val (.ref a), .val (.int (1 : Int32)), .val (.ref b), .val (.int (1 : Int32)), .val (.int (4 : Int32)), .val (.int (1 : Int32)), .val (.int c1)] [(.int (c1.toInt8.toInt32)), (.int (1 : Int32)), (.ref b)])) (fun _ k => XS.icmpYes X3.here hx rfl (pc0 := 20) (pc' := 26) rfl (hb hby d10_20) rfl (flt g1).2.2.2 (by decide) (by decide) (XS.aloadN X3.here hx rfl (hb hby d10_26) rfl rfl  (XS.iloadN X3.here hx rfl (hb hby d10_27) rfl  (XS.iload X3.here hx rfl (hb hby d10_28) rfl  (XS.i2b X3.here hx rfl (hb hby d10_30) rfl k))))) ?_
      obtain ⟨cl9, Ar9, q9, S9, Nn9, H9, G9⟩ := id V3
      have hin9 : ¬ ((1 : Int32) < 0 ∨ cl9.slots.size ≤ ((1 : Int32)).toNatClampNeg) := inb_of S9 ⟨by decide, by decide⟩
      obtain ⟨T10, h10, X10, e10, W10, st10⟩ := stB X3 hx hZ e3 Ar9 (j := (1 : Int32)) hin9 (g := (mkF m 31 #[.val (.ref a), .val (.int (1 : Int32)), .val (.ref b), .val (.int (1 : Int32)), .val (.int (4 : Int32)), .val (.int (1 : Int32)), .val (.int c1)] [(.int (c1.toInt8.toInt32)), (.int (1 : Int32)), (.ref b)])) rfl rfl (hb hby d10_31)
      have V10 : Arv Z h10 b kB .byte (4 : Int32) [(.int (nar .byte (c0.toInt8.toInt32))), (.int (nar .byte (c1.toInt8.toInt32))), (.int (0 : Int32)), (.int (0 : Int32))] (.int (0 : Int32)) := Arv.set Ar9 q9 S9 Nn9 H9 G9 (fits_nar_byte _) W10 1 rfl (Nat.le_of_ble_eq_true rfl)
      have f11 := f4.wr W10 gb
      have f12 := f5.other W10 nab
      have z13 : n0 ≤ h10.size := Nat.le_trans z6 (Keep.of_wr W10).1
      have K14 : Keep h0 h10 [b] := K7.wr W10 (Or.inl (om 0 rfl))
      have N10 := Fr.snoc X10 N3 gb
      refine Goes.on (B := T10.setTop (mkF m 32 #[.val (.ref a), .val (.int (1 : Int32)), .val (.ref b), .val (.int (1 : Int32)), .val (.int (4 : Int32)), .val (.int (1 : Int32)), .val (.int c1)] [])) (fun t k => st10 t k) ?_
      refine Goes.on (B := T10.setTop (mkF m 11 #[.val (.ref a), .val (.int (2 : Int32)), .val (.ref b), .val (.int (2 : Int32)), .val (.int (4 : Int32)), .val (.int (2 : Int32)), .val (.int c1)] [(.ref a)])) (fun _ k => XS.iinc X10.here hx rfl (hb hby d10_32) rfl (l' := #[.val (.ref a), .val (.int (2 : Int32)), .val (.ref b), .val (.int (1 : Int32)), .val (.int (4 : Int32)), .val (.int (1 : Int32)), .val (.int c1)]) rfl (XS.iinc X10.here hx rfl (hb hby d10_35) rfl (l' := #[.val (.ref a), .val (.int (2 : Int32)), .val (.ref b), .val (.int (2 : Int32)), .val (.int (4 : Int32)), .val (.int (1 : Int32)), .val (.int c1)]) rfl (XS.iinc X10.here hx rfl (hb hby d10_38) rfl (l' := #[.val (.ref a), .val (.int (2 : Int32)), .val (.ref b), .val (.int (2 : Int32)), .val (.int (4 : Int32)), .val (.int (2 : Int32)), .val (.int c1)]) rfl (XS.goto X10.here hx rfl (pc0 := 41) (pc' := 3) rfl (hb hby d10_41) (by decide) (by decide) (XS.iload X10.here hx rfl (hb hby d10_3) rfl  (XS.iload X10.here hx rfl (hb hby d10_5) rfl  (XS.icmpNo X10.here hx rfl (hb hby d10_7) rfl (tlt (by decide)).2.1 (XS.aloadN X10.here hx rfl (hb hby d10_10) rfl rfl  k)))))))) ?_
      refine Goes.on (B := T10.setTop (mkF m 12 #[.val (.ref a), .val (.int (2 : Int32)), .val (.ref b), .val (.int (2 : Int32)), .val (.int (4 : Int32)), .val (.int (2 : Int32)), .val (.int c1)] [(.int (2 : Int32)), (.ref a)])) (fun _ k => XS.iloadN X10.here hx rfl (hb hby d10_11) rfl  k) ?_
      obtain ⟨cl15, Ar15, q15, S15, Nn15, H15, G15⟩ := id f12
      have hin15 : ¬ ((2 : Int32) < 0 ∨ cl15.slots.size ≤ ((2 : Int32)).toNatClampNeg) := inb_of S15 ⟨by decide, by decide⟩
      refine Goes.on (B := T10.setTop (mkF m 20 #[.val (.ref a), .val (.int (2 : Int32)), .val (.ref b), .val (.int (2 : Int32)), .val (.int (4 : Int32)), .val (.int (2 : Int32)), .val (.int c2)] [(.int (255 : Int32)), (.int c2)])) (fun _ k => X10.caload hx (j := (2 : Int32)) (v := (.int c2)) (by rw [e10]; exact Ar15.1) (State.isArrayOf_alike hZ.alike Ar15.2.1) Ar15.2.2 hin15 (H15.at hin15 rfl) (g := (mkF m 12 #[.val (.ref a), .val (.int (2 : Int32)), .val (.ref b), .val (.int (2 : Int32)), .val (.int (4 : Int32)), .val (.int (2 : Int32)), .val (.int c1)] [(.int (2 : Int32)), (.ref a)])) rfl rfl (hb hby d10_12) _ (XS.istore X10.here hx rfl (hb hby d10_13) rfl (l' := #[.val (.ref a), .val (.int (2 : Int32)), .val (.ref b), .val (.int (2 : Int32)), .val (.int (4 : Int32)), .val (.int (2 : Int32)), .val (.int c2)]) rfl (XS.iload X10.here hx rfl (hb hby d10_15) rfl  (XS.sipush X10.here hx rfl (hb hby d10_17) k)))) ?_
      by_cases g2 : (255 : Int32) < c2
      · refine Goes.on (B := T10.setTop (mkF m 25 #[.val (.ref a), .val (.int (2 : Int32)), .val (.ref b), .val (.int (2 : Int32)), .val (.int (4 : Int32)), .val (.int (2 : Int32)), .val (.int c2)] [(.int (2 : Int32))])) (fun _ k => XS.icmpNo X10.here hx rfl (hb hby d10_20) rfl (tlt g2).2.2.2 (XS.iload X10.here hx rfl (hb hby d10_23) rfl  k)) ?_
        obtain ⟨fs, hr, hrun, hended, hW, hsame⟩ := X10.leave (v := some (.int (2 : Int32))) (fun h => by rw [Bd.returns] at h; cases h)
        exact Goes.leaf (own_retI X10 hx Bd.returns (hb hby d10_25) hr) hrun hended ⟨_, _, rfl, by show QcI4 Z a b kC kB c0 c1 c2 c3 h0 n0 _ T10.heap _; rw [e10]; exact ⟨(2 : Int32), c2, rfl, N10, K14, by decide, g2, r2, ⟨by decide, by decide⟩, ⟨by decide, by decide⟩, rfl, rfl⟩, ⟨_, rfl⟩, hW, hsame.mono (by decide) (by decide)⟩
      · refine Goes.on (B := T10.setTop (mkF m 31 #[.val (.ref a), .val (.int (2 : Int32)), .val (.ref b), .val (.int (2 : Int32)), .val (.int (4 : Int32)), .val (.int (2 : Int32)), .val (.int c2)] [(.int (c2.toInt8.toInt32)), (.int (2 : Int32)), (.ref b)])) (fun _ k => XS.icmpYes X10.here hx rfl (pc0 := 20) (pc' := 26) rfl (hb hby d10_20) rfl (flt g2).2.2.2 (by decide) (by decide) (XS.aloadN X10.here hx rfl (hb hby d10_26) rfl rfl  (XS.iloadN X10.here hx rfl (hb hby d10_27) rfl  (XS.iload X10.here hx rfl (hb hby d10_28) rfl  (XS.i2b X10.here hx rfl (hb hby d10_30) rfl k))))) ?_
        obtain ⟨cl16, Ar16, q16, S16, Nn16, H16, G16⟩ := id V10
        have hin16 : ¬ ((2 : Int32) < 0 ∨ cl16.slots.size ≤ ((2 : Int32)).toNatClampNeg) := inb_of S16 ⟨by decide, by decide⟩
        obtain ⟨T17, h17, X17, e17, W17, st17⟩ := stB X10 hx hZ e10 Ar16 (j := (2 : Int32)) hin16 (g := (mkF m 31 #[.val (.ref a), .val (.int (2 : Int32)), .val (.ref b), .val (.int (2 : Int32)), .val (.int (4 : Int32)), .val (.int (2 : Int32)), .val (.int c2)] [(.int (c2.toInt8.toInt32)), (.int (2 : Int32)), (.ref b)])) rfl rfl (hb hby d10_31)
        have V17 : Arv Z h17 b kB .byte (4 : Int32) [(.int (nar .byte (c0.toInt8.toInt32))), (.int (nar .byte (c1.toInt8.toInt32))), (.int (nar .byte (c2.toInt8.toInt32))), (.int (0 : Int32))] (.int (0 : Int32)) := Arv.set Ar16 q16 S16 Nn16 H16 G16 (fits_nar_byte _) W17 2 rfl (Nat.le_of_ble_eq_true rfl)
        have f18 := f11.wr W17 gb
        have f19 := f12.other W17 nab
        have z20 : n0 ≤ h17.size := Nat.le_trans z13 (Keep.of_wr W17).1
        have K21 : Keep h0 h17 [b] := K14.wr W17 (Or.inl (om 0 rfl))
        have N17 := Fr.snoc X17 N10 gb
        refine Goes.on (B := T17.setTop (mkF m 32 #[.val (.ref a), .val (.int (2 : Int32)), .val (.ref b), .val (.int (2 : Int32)), .val (.int (4 : Int32)), .val (.int (2 : Int32)), .val (.int c2)] [])) (fun t k => st17 t k) ?_
        refine Goes.on (B := T17.setTop (mkF m 11 #[.val (.ref a), .val (.int (3 : Int32)), .val (.ref b), .val (.int (3 : Int32)), .val (.int (4 : Int32)), .val (.int (3 : Int32)), .val (.int c2)] [(.ref a)])) (fun _ k => XS.iinc X17.here hx rfl (hb hby d10_32) rfl (l' := #[.val (.ref a), .val (.int (3 : Int32)), .val (.ref b), .val (.int (2 : Int32)), .val (.int (4 : Int32)), .val (.int (2 : Int32)), .val (.int c2)]) rfl (XS.iinc X17.here hx rfl (hb hby d10_35) rfl (l' := #[.val (.ref a), .val (.int (3 : Int32)), .val (.ref b), .val (.int (3 : Int32)), .val (.int (4 : Int32)), .val (.int (2 : Int32)), .val (.int c2)]) rfl (XS.iinc X17.here hx rfl (hb hby d10_38) rfl (l' := #[.val (.ref a), .val (.int (3 : Int32)), .val (.ref b), .val (.int (3 : Int32)), .val (.int (4 : Int32)), .val (.int (3 : Int32)), .val (.int c2)]) rfl (XS.goto X17.here hx rfl (pc0 := 41) (pc' := 3) rfl (hb hby d10_41) (by decide) (by decide) (XS.iload X17.here hx rfl (hb hby d10_3) rfl  (XS.iload X17.here hx rfl (hb hby d10_5) rfl  (XS.icmpNo X17.here hx rfl (hb hby d10_7) rfl (tlt (by decide)).2.1 (XS.aloadN X17.here hx rfl (hb hby d10_10) rfl rfl  k)))))))) ?_
        refine Goes.on (B := T17.setTop (mkF m 12 #[.val (.ref a), .val (.int (3 : Int32)), .val (.ref b), .val (.int (3 : Int32)), .val (.int (4 : Int32)), .val (.int (3 : Int32)), .val (.int c2)] [(.int (3 : Int32)), (.ref a)])) (fun _ k => XS.iloadN X17.here hx rfl (hb hby d10_11) rfl  k) ?_
        obtain ⟨cl22, Ar22, q22, S22, Nn22, H22, G22⟩ := id f19
        have hin22 : ¬ ((3 : Int32) < 0 ∨ cl22.slots.size ≤ ((3 : Int32)).toNatClampNeg) := inb_of S22 ⟨by decide, by decide⟩
        refine Goes.on (B := T17.setTop (mkF m 20 #[.val (.ref a), .val (.int (3 : Int32)), .val (.ref b), .val (.int (3 : Int32)), .val (.int (4 : Int32)), .val (.int (3 : Int32)), .val (.int c3)] [(.int (255 : Int32)), (.int c3)])) (fun _ k => X17.caload hx (j := (3 : Int32)) (v := (.int c3)) (by rw [e17]; exact Ar22.1) (State.isArrayOf_alike hZ.alike Ar22.2.1) Ar22.2.2 hin22 (H22.at hin22 rfl) (g := (mkF m 12 #[.val (.ref a), .val (.int (3 : Int32)), .val (.ref b), .val (.int (3 : Int32)), .val (.int (4 : Int32)), .val (.int (3 : Int32)), .val (.int c2)] [(.int (3 : Int32)), (.ref a)])) rfl rfl (hb hby d10_12) _ (XS.istore X17.here hx rfl (hb hby d10_13) rfl (l' := #[.val (.ref a), .val (.int (3 : Int32)), .val (.ref b), .val (.int (3 : Int32)), .val (.int (4 : Int32)), .val (.int (3 : Int32)), .val (.int c3)]) rfl (XS.iload X17.here hx rfl (hb hby d10_15) rfl  (XS.sipush X17.here hx rfl (hb hby d10_17) k)))) ?_
        by_cases g3 : (255 : Int32) < c3
        · refine Goes.on (B := T17.setTop (mkF m 25 #[.val (.ref a), .val (.int (3 : Int32)), .val (.ref b), .val (.int (3 : Int32)), .val (.int (4 : Int32)), .val (.int (3 : Int32)), .val (.int c3)] [(.int (3 : Int32))])) (fun _ k => XS.icmpNo X17.here hx rfl (hb hby d10_20) rfl (tlt g3).2.2.2 (XS.iload X17.here hx rfl (hb hby d10_23) rfl  k)) ?_
          obtain ⟨fs, hr, hrun, hended, hW, hsame⟩ := X17.leave (v := some (.int (3 : Int32))) (fun h => by rw [Bd.returns] at h; cases h)
          exact Goes.leaf (own_retI X17 hx Bd.returns (hb hby d10_25) hr) hrun hended ⟨_, _, rfl, by show QcI4 Z a b kC kB c0 c1 c2 c3 h0 n0 _ T17.heap _; rw [e17]; exact ⟨(3 : Int32), c3, rfl, N17, K21, by decide, g3, r3, ⟨by decide, by decide⟩, ⟨by decide, by decide⟩, rfl, rfl⟩, ⟨_, rfl⟩, hW, hsame.mono (by decide) (by decide)⟩
        · exact absurd ⟨g0, g1, g2, g3⟩ hwd
theorem ef_cB4 (m : MethodId) (x0 : Addr) (x1 : Int32) (x2 : Int32) : entryFrame m #[(.ref x0), (.int x1), (.int x2)] 6 = mkF m 0 #[.val (.ref x0), .val (.int x1), .val (.int x2), .unset, .unset, .unset] [] := by first | (simp [entryFrame, mkF, argsToLocals, Value.category]; done) | rfl
def QcB4 (Z : State) (a : Addr) (kC : ClassId) (c0 c1 c2 c3 : Int32) (GA : Int32) (GB : Value) (h0 : Heap) (n0 : Nat) (v : Option Value) (h : Heap) (L : List Loc) : Prop := ∃ (b : Addr) (kb : ClassId), v = some (.ref b) ∧ Fr n0 L ∧ Keep h0 h [] ∧ n0 ≤ b ∧ h0.size ≤ b ∧ Arv Z h b kb .byte (8 : Int32) [(.int (bA c0)), (.int (bB c0)), (.int (bA c1)), (.int (bB c1)), (.int (bA c2)), (.int (bB c2)), (.int (bA c3)), (.int (bB c3))] (.int (0 : Int32))
set_option maxRecDepth 65536 in
set_option maxHeartbeats 40000000 in
theorem rmcB4 (l : Launch) (Z : State) (a0 : Array Value) (hw : ∀ d ∈ tables_1, d.before a0 Z = true) (ws : List Jvm.Cond) (a : Addr) (kC : ClassId) (c0 c1 c2 c3 : Int32) (GA : Int32) (GB : Value) (h0 : Heap) (n0 : Nat) (Z0 : n0 ≤ h0.size) (SS : own_St Z GA GB) (X00 : Old Z n0 h0) (AC : Arv Z h0 a kC .char (4 : Int32) [(.int c0), (.int c1), (.int c2), (.int c3)] (.int (0 : Int32))) (r0 : own_rg c0) (r1 : own_rg c1) (r2 : own_rg c2) (r3 : own_rg c3) (hwd : ¬ (¬ (255 : Int32) < c0 ∧ ¬ (255 : Int32) < c1 ∧ ¬ (255 : Int32) < c2 ∧ ¬ (255 : Int32) < c3)) :
    MetFree l (⟨"java/lang/StringUTF16", "compress", "([CII)[B"⟩ : MethodName) (head1 (Jvm.Cond.code (⟨"java/lang/StringUTF16", "compress", "([CII)[B"⟩ : MethodName) jdk_52_method_16_code 6 (some (.array .byte)) :: ws) ({ frames := 3, cells := 2, slots := 12, locals := 42 } : Room)) (fun aa U => aa = #[(.ref a), (.int (0 : Int32)), (.int (4 : Int32))] ∧ Z.Warmed39 U.vm ∧ U.heap = h0) (fun _ _ _ _ _ => True) (fun _ U oo U' => ∃ vv LL, oo = .returned vv ∧ QcB4 Z a kC c0 c1 c2 c3 GA GB h0 n0 vv U'.heap LL ∧ FrameEnd U oo U' LL ({ frames := 3, cells := 2, slots := 12, locals := 42 } : Room).cells ({ frames := 3, cells := 2, slots := 12, locals := 42 } : Room).slots) := by
  refine MetFree.of_bodySF (plainFor_of_name pn_9) hisR ?_
  intro p e s m args below meth c s₁ Bd hml0 hP hK
  obtain ⟨rfl, hZ, hh⟩ := hP
  have hx := Bd.exec
  have hby := Bd.bytes
  have hml : c.maxLocals = 6 := hml0
  have hown : s.vm.findClass "java/lang/StringUTF16" = some m.cls := findClass_of_methodNamed Bd.named
  have hnm := (name_of_methodNamed Bd.named Bd.method).1
  have X0 : Stand p l e ({ frames := 3, cells := 2, slots := 12, locals := 42 } : Room) s m #[(.ref a), (.int (0 : Int32)), (.int (4 : Int32))] below meth c s₁ [] 0 0 := Stand.of_body Bd
  have e0 : s₁.heap = h0 := by rw [← hh, Bd.state]; rfl
  have N0 := Fr.nil n0
  show Goes p e below _ (s₁.setTop (entryFrame m #[(.ref a), (.int (0 : Int32)), (.int (4 : Int32))] 6))
  refine Goes.on (B := s₁.setTop (mkF m 0 #[.val (.ref a), .val (.int (0 : Int32)), .val (.int (4 : Int32)), .unset, .unset, .unset] [])) (fun t k => castTop (ef_cB4 m a (0 : Int32) (4 : Int32)) k) ?_
  refine Goes.on (B := s₁.setTop (mkF m 1 #[.val (.ref a), .val (.int (0 : Int32)), .val (.int (4 : Int32)), .unset, .unset, .unset] [(.int (4 : Int32))])) (fun _ k => XS.iloadN X0.here hx rfl (hb hby d9_0) rfl  k) ?_
  obtain ⟨T1, h1, k1, X1, e1, E1, A1, st1⟩ := newP X0 hx hZ (hw _ (om 23 rfl)) e0 (g := (mkF m 1 #[.val (.ref a), .val (.int (0 : Int32)), .val (.int (4 : Int32)), .unset, .unset, .unset] [(.int (4 : Int32))])) rfl (hb hby d9_1) rfl (by decide) (cap := 4) (by decide) (by decide) (by decide) (by decide)
  obtain ⟨b1, g1⟩ : ∃ z, z = h0.size := ⟨_, rfl⟩
  rw [← g1] at A1 st1
  have ne_a_b1 : a ≠ b1 := Nat.ne_of_lt (Nat.lt_of_lt_of_le AC.lt (Nat.le_of_eq g1.symm))
  have f2 := X00.ext E1
  have f3 := AC.ext E1
  have z4 : n0 ≤ h1.size := Nat.le_trans Z0 E1.1
  have K5 : Keep h0 h1 [] := (Keep.refl h0 []).ext E1
  have g_b1 : n0 ≤ b1 := Nat.le_trans Z0 (Nat.le_of_eq g1.symm)
  have sz_b1 : h0.size ≤ b1 := Nat.le_trans (Keep.refl h0 []).1 (Nat.le_of_eq g1.symm)
  have V1 : Arv Z h1 b1 k1 .byte (4 : Int32) [(.int (0 : Int32)), (.int (0 : Int32)), (.int (0 : Int32)), (.int (0 : Int32))] (.int (0 : Int32)) := (Arv.new A1 (by decide)).pad (pad_rep [] (.int (0 : Int32)) 4)
  refine Goes.on (B := T1.setTop (mkF m 3 #[.val (.ref a), .val (.int (0 : Int32)), .val (.int (4 : Int32)), .unset, .unset, .unset] [(.ref b1)])) (fun t k => st1 t k) ?_
  refine Goes.on (B := T1.setTop (mkF m 9 #[.val (.ref a), .val (.int (0 : Int32)), .val (.int (4 : Int32)), .val (.ref b1), .unset, .unset] [(.int (4 : Int32)), (.int (0 : Int32)), (.ref b1), (.int (0 : Int32)), (.ref a)])) (fun _ k => XS.astoreN X1.here hx rfl (hb hby d9_3) rfl rfl (l' := #[.val (.ref a), .val (.int (0 : Int32)), .val (.int (4 : Int32)), .val (.ref b1), .unset, .unset]) rfl (XS.aloadN X1.here hx rfl (hb hby d9_4) rfl rfl  (XS.iloadN X1.here hx rfl (hb hby d9_5) rfl  (XS.aloadN X1.here hx rfl (hb hby d9_6) rfl rfl  (XS.iconst X1.here hx rfl (hb hby d9_7) (XS.iloadN X1.here hx rfl (hb hby d9_8) rfl  k)))))) ?_
  obtain ⟨_, _, ⟨T6, L6, k6, n6⟩, -, X6, ⟨Lc6, hQ6, l6, y6, z6⟩, st6⟩ := Jvm.LawKit.callS X1 hx (y := (⟨"java/lang/StringUTF16", "compress", "([CI[BII)I"⟩ : MethodName)) hown (mvT hZ (hw _ (om 53 rfl))) (mvT hZ (hw _ (om 54 rfl))) (mvT hZ (hw _ (om 51 rfl))) (mvT hZ (hw _ (om 55 rfl))) (by decide) (backOf (W := 0) (rmcI4 l Z a0 hw [] a b1 kC k1 c0 c1 c2 c3 h1 n0 z4 f2 f3 V1 g_b1 ne_a_b1 r0 r1 r2 r3 hwd) hZ (hw _ (om 55 rfl)) (hw _ (om 51 rfl)) (by decide) (by decide)) (g := (mkF m 9 #[.val (.ref a), .val (.int (0 : Int32)), .val (.int (4 : Int32)), .val (.ref b1), .unset, .unset] [(.int (4 : Int32)), (.int (0 : Int32)), (.ref b1), (.int (0 : Int32)), (.ref a)])) rfl (by rw [hml]; rfl) (argsL := [(.ref a), (.int (0 : Int32)), (.ref b1), (.int (0 : Int32)), (.int (4 : Int32))]) (rest := []) (lenOf pd_9___CI_BII_I rfl) rfl (by show 2 * 0 + _ ≤ _; exact Nat.le_of_eq rfl) (hb hby d9_9) (fun _ _ => ⟨rfl, e1, (by decide : 1 + 0 ≤ _), (by decide : 4 + 0 ≤ _)⟩)
  dsimp only [Pt.U, Pt.locs, Pt.cells, Pt.slots] at X6 l6 y6 z6 st6 hQ6
  subst l6 y6 z6
  obtain ⟨ii, y, rfl, Nq6, Kq6, hne, hwy, ry, hi0, hi1, ha0, ha1⟩ := hQ6
  obtain ⟨h6, eh6⟩ : ∃ h, T6.heap = h := ⟨_, rfl⟩
  rw [eh6] at Kq6
  have f7 := f2.keep Kq6 (allS g_b1 all0)
  have f8 := f3.keep Kq6 (ninS ne_a_b1 nin0)
  have z9 : n0 ≤ h6.size := Nat.le_trans z4 Kq6.1
  have K10 : Keep h0 h6 [] := K5.trans Kq6 (allS (Or.inr sz_b1) all0)
  have N6 := Fr.app N0 Nq6
  refine Goes.on (B := T6.setTop (mkF m 12 #[.val (.ref a), .val (.int (0 : Int32)), .val (.int (4 : Int32)), .val (.ref b1), .unset, .unset] [(.int ii)])) (fun t k => st6 t k) ?_
  refine Goes.on (B := T6.setTop (mkF m 23 #[.val (.ref a), .val (.int (0 : Int32)), .val (.int (4 : Int32)), .val (.ref b1), .val (.int ii), .unset] [(.int (4 : Int32)), (.int (0 : Int32)), (.ref a)])) (fun _ k => XS.istore X6.here hx rfl (hb hby d9_12) rfl (l' := #[.val (.ref a), .val (.int (0 : Int32)), .val (.int (4 : Int32)), .val (.ref b1), .val (.int ii), .unset]) rfl (XS.iload X6.here hx rfl (hb hby d9_14) rfl  (XS.iloadN X6.here hx rfl (hb hby d9_16) rfl  (XS.icmpNo X6.here hx rfl (hb hby d9_17) rfl (feq hne).1 (XS.aloadN X6.here hx rfl (hb hby d9_20) rfl rfl  (XS.iloadN X6.here hx rfl (hb hby d9_21) rfl  (XS.iloadN X6.here hx rfl (hb hby d9_22) rfl  k))))))) ?_
  obtain ⟨_, _, ⟨T11, L11, k11, n11⟩, -, X11, ⟨Lc11, hQ11, l11, y11, z11⟩, st11⟩ := Jvm.LawKit.callS X6 hx (y := (⟨"java/lang/StringUTF16", "toBytes", "([CII)[B"⟩ : MethodName)) hown (mvT hZ (hw _ (om 90 rfl))) (mvT hZ (hw _ (om 91 rfl))) (mvT hZ (hw _ (om 51 rfl))) (mvT hZ (hw _ (om 92 rfl))) (by decide) (backOf (W := 0) (rmtb4 l Z a0 hw [] a kC c0 c1 c2 c3 GA GB h6 n0 z9 SS f7 f8) hZ (hw _ (om 92 rfl)) (hw _ (om 51 rfl)) (by decide) (by decide)) (g := (mkF m 23 #[.val (.ref a), .val (.int (0 : Int32)), .val (.int (4 : Int32)), .val (.ref b1), .val (.int ii), .unset] [(.int (4 : Int32)), (.int (0 : Int32)), (.ref a)])) rfl (by rw [hml]; rfl) (argsL := [(.ref a), (.int (0 : Int32)), (.int (4 : Int32))]) (rest := []) (lenOf pd_9___CII__B rfl) rfl (by show 2 * 0 + _ ≤ _; exact Nat.le_of_eq rfl) (hb hby d9_23) (fun _ _ => ⟨rfl, eh6, (by decide : 1 + 1 ≤ _), (by decide : 4 + 8 ≤ _)⟩)
  dsimp only [Pt.U, Pt.locs, Pt.cells, Pt.slots] at X11 l11 y11 z11 st11 hQ11
  subst l11 y11 z11
  obtain ⟨b11, kb11, rfl, Nq11, Kq11, g_b11, sq_b11, Vq11⟩ := hQ11
  obtain ⟨h11, eh11⟩ : ∃ h, T11.heap = h := ⟨_, rfl⟩
  rw [eh11] at Kq11 Vq11
  have ne_a_b11 : a ≠ b11 := Nat.ne_of_lt (Nat.lt_of_lt_of_le f8.lt sq_b11)
  have f12 := f7.keep Kq11 (all0)
  have f13 := f8.keep Kq11 nin0
  have z14 : n0 ≤ h11.size := Nat.le_trans z9 Kq11.1
  have K15 : Keep h0 h11 [] := K10.trans Kq11 all0
  have sz_b11 : h0.size ≤ b11 := Nat.le_trans K10.1 sq_b11
  have N11 := Fr.app N6 Nq11
  refine Goes.on (B := T11.setTop (mkF m 26 #[.val (.ref a), .val (.int (0 : Int32)), .val (.int (4 : Int32)), .val (.ref b1), .val (.int ii), .unset] [(.ref b11)])) (fun t k => st11 t k) ?_
  refine Goes.on (B := T11.setTop (mkF m 32 #[.val (.ref a), .val (.int (0 : Int32)), .val (.int (4 : Int32)), .val (.ref b1), .val (.int ii), .val (.ref b11)] [(.int ii), (.ref b11)])) (fun _ k => XS.astore X11.here hx rfl (hb hby d9_26) rfl rfl (l' := #[.val (.ref a), .val (.int (0 : Int32)), .val (.int (4 : Int32)), .val (.ref b1), .val (.int ii), .val (.ref b11)]) rfl (XS.aload X11.here hx rfl (hb hby d9_28) rfl rfl  (XS.iload X11.here hx rfl (hb hby d9_30) rfl  k))) ?_
  obtain ⟨_, _, ⟨T16, L16, k16, n16⟩, -, X16, ⟨Lc16, hQ16, l16, y16, z16⟩, st16⟩ := Jvm.LawKit.callS X11 hx (y := (⟨"java/lang/StringUTF16", "getChar", "([BI)C"⟩ : MethodName)) hown (mvT hZ (hw _ (om 106 rfl))) (mvT hZ (hw _ (om 107 rfl))) (mvT hZ (hw _ (om 51 rfl))) (mvT hZ (hw _ (om 108 rfl))) (by decide) (backOf (W := 0) (rmgc l Z a0 hw [] b11 ii kb11 (8 : Int32) [(.int (bA c0)), (.int (bB c0)), (.int (bA c1)), (.int (bB c1)), (.int (bA c2)), (.int (bB c2)), (.int (bA c3)), (.int (bB c3))] y GA GB h11 n0 z14 SS f12 Vq11 hi0 hi1 ha0 ha1 ry) hZ (hw _ (om 108 rfl)) (hw _ (om 51 rfl)) (by decide) (by decide)) (g := (mkF m 32 #[.val (.ref a), .val (.int (0 : Int32)), .val (.int (4 : Int32)), .val (.ref b1), .val (.int ii), .val (.ref b11)] [(.int ii), (.ref b11)])) rfl (by rw [hml]; rfl) (argsL := [(.ref b11), (.int ii)]) (rest := []) (lenOf pd_9___BI_C rfl) rfl (by show 2 * 0 + _ ≤ _; exact Nat.le_of_eq rfl) (hb hby d9_32) (fun _ _ => ⟨rfl, eh11, (by decide : 2 + 0 ≤ _), (by decide : 12 + 0 ≤ _)⟩)
  dsimp only [Pt.U, Pt.locs, Pt.cells, Pt.slots] at X16 l16 y16 z16 st16 hQ16
  subst l16 y16 z16
  obtain ⟨rfl, Nq16, eh16⟩ := hQ16
  have N16 := Fr.app N11 Nq16
  refine Goes.on (B := T16.setTop (mkF m 35 #[.val (.ref a), .val (.int (0 : Int32)), .val (.int (4 : Int32)), .val (.ref b1), .val (.int ii), .val (.ref b11)] [(.int y)])) (fun t k => st16 t k) ?_
  refine Goes.on (B := T16.setTop (mkF m 56 #[.val (.ref a), .val (.int (0 : Int32)), .val (.int (4 : Int32)), .val (.ref b1), .val (.int ii), .val (.ref b11)] [(.ref b11)])) (fun _ k => XS.sipush X16.here hx rfl (hb hby d9_35) (XS.icmpYes X16.here hx rfl (pc0 := 38) (pc' := 54) rfl (hb hby d9_38) rfl (tlt hwy).2.2.1 (by decide) (by decide) (XS.aload X16.here hx rfl (hb hby d9_54) rfl rfl  k))) ?_
  obtain ⟨fs, hr, hrun, hended, hW, hsame⟩ := X16.leave (v := some (.ref b11)) (fun h => by rw [Bd.returns] at h; cases h)
  exact Goes.leaf (own_retR X16 hx Bd.returns rfl rfl (hb hby d9_56) hr) hrun hended ⟨_, _, rfl, by show QcB4 Z a kC c0 c1 c2 c3 GA GB h0 n0 _ T16.heap _; rw [eh16]; exact ⟨b11, _, rfl, N16, K15, g_b11, sz_b11, Vq11⟩, ⟨_, rfl⟩, hW, hsame.mono (by decide) (by decide)⟩
theorem ef_cf4 (m : MethodId) (x0 : Addr) (x1 : Int32) : entryFrame m #[(.ref x0), (.int x1)] 2 = mkF m 0 #[.val (.ref x0), .val (.int x1)] [] := by first | (simp [entryFrame, mkF, argsToLocals, Value.category]; done) | rfl
def Qcf4 (Z : State) (a : Addr) (kA : ClassId) (vs : List Value) (h0 : Heap) (n0 : Nat) (v : Option Value) (h : Heap) (L : List Loc) : Prop := v = some (.int (1 : Int32)) ∧ Fr n0 L ∧ h = h0
set_option maxRecDepth 65536 in
set_option maxHeartbeats 40000000 in
theorem rmcf4 (l : Launch) (Z : State) (a0 : Array Value) (hw : ∀ d ∈ tables_1, d.before a0 Z = true) (ws : List Jvm.Cond) (a : Addr) (kA : ClassId) (vs : List Value) (h0 : Heap) (n0 : Nat) (Z0 : n0 ≤ h0.size) (AV : Arv Z h0 a kA .byte (8 : Int32) vs (.int (0 : Int32))) :
    MetFree l (⟨"java/lang/StringUTF16", "coderFromArrayLen", "([BI)B"⟩ : MethodName) (head1 (Jvm.Cond.code (⟨"java/lang/StringUTF16", "coderFromArrayLen", "([BI)B"⟩ : MethodName) jdk_52_method_15_code 2 (some .byte) :: ws) ({ frames := 0, cells := 0, slots := 0, locals := 0 } : Room)) (fun aa U => aa = #[(.ref a), (.int (4 : Int32))] ∧ Z.Warmed39 U.vm ∧ U.heap = h0) (fun _ _ _ _ _ => True) (fun _ U oo U' => ∃ vv LL, oo = .returned vv ∧ Qcf4 Z a kA vs h0 n0 vv U'.heap LL ∧ FrameEnd U oo U' LL ({ frames := 0, cells := 0, slots := 0, locals := 0 } : Room).cells ({ frames := 0, cells := 0, slots := 0, locals := 0 } : Room).slots) := by
  refine MetFree.of_bodySF (plainFor_of_name pn_11) hisR ?_
  intro p e s m args below meth c s₁ Bd hml0 hP hK
  obtain ⟨rfl, hZ, hh⟩ := hP
  have hx := Bd.exec
  have hby := Bd.bytes
  have hml : c.maxLocals = 2 := hml0
  have hown : s.vm.findClass "java/lang/StringUTF16" = some m.cls := findClass_of_methodNamed Bd.named
  have hnm := (name_of_methodNamed Bd.named Bd.method).1
  have X0 : Stand p l e ({ frames := 0, cells := 0, slots := 0, locals := 0 } : Room) s m #[(.ref a), (.int (4 : Int32))] below meth c s₁ [] 0 0 := Stand.of_body Bd
  have e0 : s₁.heap = h0 := by rw [← hh, Bd.state]; rfl
  have N0 := Fr.nil n0
  show Goes p e below _ (s₁.setTop (entryFrame m #[(.ref a), (.int (4 : Int32))] 2))
  refine Goes.on (B := s₁.setTop (mkF m 0 #[.val (.ref a), .val (.int (4 : Int32))] [])) (fun t k => castTop (ef_cf4 m a (4 : Int32)) k) ?_
  refine Goes.on (B := s₁.setTop (mkF m 2 #[.val (.ref a), .val (.int (4 : Int32))] [(.ref a), (.int (4 : Int32))])) (fun _ k => XS.iloadN X0.here hx rfl (hb hby d11_0) rfl  (XS.aloadN X0.here hx rfl (hb hby d11_1) rfl rfl  k)) ?_
  obtain ⟨cl1, Ar1, -, S1, Nn1, -, -⟩ := id AV
  refine Goes.on (B := s₁.setTop (mkF m 3 #[.val (.ref a), .val (.int (4 : Int32))] [(.int (8 : Int32)), (.int (4 : Int32))])) (fun t k => X0.arraylength hx (by rw [e0]; exact Ar1.1) (State.isArrayOf_alike hZ.alike Ar1.2.1) (g := (mkF m 2 #[.val (.ref a), .val (.int (4 : Int32))] [(.ref a), (.int (4 : Int32))])) rfl rfl (hb hby d11_2) t (by rw [len_of S1 Nn1]; exact k)) ?_
  refine Goes.on (B := s₁.setTop (mkF m 8 #[.val (.ref a), .val (.int (4 : Int32))] [(.int (1 : Int32))])) (fun _ k => XS.isub X0.here hx rfl (hb hby d11_3) rfl (XS.bipush X0.here hx rfl (hb hby d11_4) (XS.iushr X0.here hx rfl (hb hby d11_6) rfl (XS.i2b X0.here hx rfl (hb hby d11_7) rfl k)))) ?_
  obtain ⟨fs, hr, hrun, hended, hW, hsame⟩ := X0.leave (v := some (.int (1 : Int32))) (fun h => by rw [Bd.returns] at h; cases h)
  exact Goes.leaf (retN X0 hx (t := .byte) Bd.returns (by simp) (hb hby d11_8) hr) hrun hended ⟨_, _, rfl, by show Qcf4 Z a kA vs h0 n0 _ s₁.heap _; rw [e0]; exact ⟨rfl, N0, rfl⟩, ⟨_, rfl⟩, hW, hsame.mono (by decide) (by decide)⟩
theorem ef_v4 (m : MethodId) (x0 : Addr) (x1 : Addr) (x2 : Int32) (x3 : Int32) : entryFrame m #[(.ref x0), (.ref x1), (.int x2), (.int x3), .null] 6 = mkF m 0 #[.val (.ref x0), .val (.ref x1), .val (.int x2), .val (.int x3), .val .null, .unset] [] := by first | (simp [entryFrame, mkF, argsToLocals, Value.category]; done) | rfl
def Qv4 (Z : State) (x : Addr) (a : Addr) (kC : ClassId) (c0 c1 c2 c3 : Int32) (GA : Int32) (GB : Value) (h0 : Heap) (n0 : Nat) (v : Option Value) (h : Heap) (L : List Loc) : Prop := v = none ∧ Fr n0 L ∧ Keep h0 h [x] ∧ Exa Z h x "java/lang/String" ∧ Fld Z h x "java/lang/String" "coder" "B" (.int (1 : Int32)) ∧ ∃ (t : Addr) (kb : ClassId), n0 ≤ t ∧ Fld Z h x "java/lang/String" "value" "[B" (.ref t) ∧ Arv Z h t kb .byte (8 : Int32) [(.int (bA c0)), (.int (bB c0)), (.int (bA c1)), (.int (bB c1)), (.int (bA c2)), (.int (bB c2)), (.int (bA c3)), (.int (bB c3))] (.int (0 : Int32))
set_option maxRecDepth 65536 in
set_option maxHeartbeats 40000000 in
theorem rmv4 (l : Launch) (Z : State) (a0 : Array Value) (hw : ∀ d ∈ tables_1, d.before a0 Z = true) (ws : List Jvm.Cond) (x : Addr) (a : Addr) (kC : ClassId) (c0 c1 c2 c3 : Int32) (GA : Int32) (GB : Value) (h0 : Heap) (n0 : Nat) (Z0 : n0 ≤ h0.size) (SS : own_St Z GA GB) (X00 : Old Z n0 h0) (EX : Exa Z h0 x "java/lang/String") (FC : Fld Z h0 x "java/lang/String" "coder" "B" (.int (0 : Int32))) (FV : Fld Z h0 x "java/lang/String" "value" "[B" .null) (gx : n0 ≤ x) (AC : Arv Z h0 a kC .char (4 : Int32) [(.int c0), (.int c1), (.int c2), (.int c3)] (.int (0 : Int32))) (r0 : own_rg c0) (r1 : own_rg c1) (r2 : own_rg c2) (r3 : own_rg c3) (hwd : ¬ (¬ (255 : Int32) < c0 ∧ ¬ (255 : Int32) < c1 ∧ ¬ (255 : Int32) < c2 ∧ ¬ (255 : Int32) < c3)) :
    MetFree l (⟨"java/lang/String", "<init>", "([CIILjava/lang/Void;)V"⟩ : MethodName) (head1 (Jvm.Cond.code (⟨"java/lang/String", "<init>", "([CIILjava/lang/Void;)V"⟩ : MethodName) jdk_42_method_149_code 6 none :: ws) ({ frames := 4, cells := 2, slots := 12, locals := 60 } : Room)) (fun aa U => aa = #[(.ref x), (.ref a), (.int (0 : Int32)), (.int (4 : Int32)), .null] ∧ Z.Warmed39 U.vm ∧ U.heap = h0) (fun _ _ _ _ _ => True) (fun _ U oo U' => ∃ vv LL, oo = .returned vv ∧ Qv4 Z x a kC c0 c1 c2 c3 GA GB h0 n0 vv U'.heap LL ∧ FrameEnd U oo U' LL ({ frames := 4, cells := 2, slots := 12, locals := 60 } : Room).cells ({ frames := 4, cells := 2, slots := 12, locals := 60 } : Room).slots) := by
  refine MetFree.of_bodySF (plainFor_of_name pn_4) hisR ?_
  intro p e s m args below meth c s₁ Bd hml0 hP hK
  obtain ⟨rfl, hZ, hh⟩ := hP
  have hx := Bd.exec
  have hby := Bd.bytes
  have hml : c.maxLocals = 6 := hml0
  have hown : s.vm.findClass "java/lang/String" = some m.cls := findClass_of_methodNamed Bd.named
  have hnm := (name_of_methodNamed Bd.named Bd.method).1
  have X0 : Stand p l e ({ frames := 4, cells := 2, slots := 12, locals := 60 } : Room) s m #[(.ref x), (.ref a), (.int (0 : Int32)), (.int (4 : Int32)), .null] below meth c s₁ [] 0 0 := Stand.of_body Bd
  have e0 : s₁.heap = h0 := by rw [← hh, Bd.state]; rfl
  have N0 := Fr.nil n0
  show Goes p e below _ (s₁.setTop (entryFrame m #[(.ref x), (.ref a), (.int (0 : Int32)), (.int (4 : Int32)), .null] 6))
  refine Goes.on (B := s₁.setTop (mkF m 0 #[.val (.ref x), .val (.ref a), .val (.int (0 : Int32)), .val (.int (4 : Int32)), .val .null, .unset] [])) (fun t k => castTop (ef_v4 m x a (0 : Int32) (4 : Int32)) k) ?_
  refine Goes.on (B := s₁.setTop (mkF m 1 #[.val (.ref x), .val (.ref a), .val (.int (0 : Int32)), .val (.int (4 : Int32)), .val .null, .unset] [(.ref x)])) (fun _ k => XS.aloadN X0.here hx rfl (hb hby d4_0) rfl rfl  k) ?_
  obtain ⟨T1, X1, e1, st1⟩ := initO X0 hx hZ hown (hw _ (om 19 rfl)) (hw _ (om 20 rfl)) (hw _ (om 21 rfl)) e0 (g := (mkF m 1 #[.val (.ref x), .val (.ref a), .val (.int (0 : Int32)), .val (.int (4 : Int32)), .val .null, .unset] [(.ref x)])) rfl (by rw [hml]; rfl) rfl (hb hby d4_1) (by decide) (W := 0) (by show 2 * 0 + _ ≤ _; exact Nat.le_of_eq rfl) (by decide)
  refine Goes.on (B := T1.setTop (mkF m 4 #[.val (.ref x), .val (.ref a), .val (.int (0 : Int32)), .val (.int (4 : Int32)), .val .null, .unset] [])) (fun t k => st1 t k) ?_
  refine Goes.on (B := T1.setTop (mkF m 27 #[.val (.ref x), .val (.ref a), .val (.int (0 : Int32)), .val (.int (4 : Int32)), .val .null, .unset] [])) (fun _ k => XS.iloadN X1.here hx rfl (hb hby d4_4) rfl  (XS.ifYes X1.here hx rfl (pc0 := 5) (pc' := 27) rfl (hb hby d4_5) rfl ((if0 _ _).trans (feq (by decide)).2) (by decide) (by decide) k)) ?_
  obtain ⟨T2, X2, e2, st2⟩ := getS2 X1 hx hZ hown (host := "") (Or.inl (hw _ (om 48 rfl))) Via.refl e1 (SS.1.ext X00.2) (g := (mkF m 27 #[.val (.ref x), .val (.ref a), .val (.int (0 : Int32)), .val (.int (4 : Int32)), .val .null, .unset] [])) rfl (hb hby d4_27)
  refine Goes.on (B := T2.setTop (mkF m 30 #[.val (.ref x), .val (.ref a), .val (.int (0 : Int32)), .val (.int (4 : Int32)), .val .null, .unset] [(.int GA)])) (fun t k => st2 t k) ?_
  refine Goes.on (B := T2.setTop (mkF m 36 #[.val (.ref x), .val (.ref a), .val (.int (0 : Int32)), .val (.int (4 : Int32)), .val .null, .unset] [(.int (4 : Int32)), (.int (0 : Int32)), (.ref a)])) (fun _ k => XS.ifNo X2.here hx rfl (hb hby d4_30) rfl ((if0 _ _).trans (feq SS.2.1).1) (XS.aloadN X2.here hx rfl (hb hby d4_33) rfl rfl  (XS.iloadN X2.here hx rfl (hb hby d4_34) rfl  (XS.iloadN X2.here hx rfl (hb hby d4_35) rfl  k)))) ?_
  obtain ⟨_, _, ⟨T3, L3, k3, n3⟩, -, X3, ⟨Lc3, hQ3, l3, y3, z3⟩, st3⟩ := Jvm.LawKit.callS X2 hx (y := (⟨"java/lang/StringUTF16", "compress", "([CII)[B"⟩ : MethodName)) hown (mvT hZ (hw _ (om 49 rfl))) (mvT hZ (hw _ (om 50 rfl))) (mvT hZ (hw _ (om 51 rfl))) (mvT hZ (hw _ (om 52 rfl))) (by decide) (backOf (W := 0) (rmcB4 l Z a0 hw [] a kC c0 c1 c2 c3 GA GB h0 n0 Z0 SS X00 AC r0 r1 r2 r3 hwd) hZ (hw _ (om 52 rfl)) (hw _ (om 51 rfl)) (by decide) (by decide)) (g := (mkF m 36 #[.val (.ref x), .val (.ref a), .val (.int (0 : Int32)), .val (.int (4 : Int32)), .val .null, .unset] [(.int (4 : Int32)), (.int (0 : Int32)), (.ref a)])) rfl (by rw [hml]; rfl) (argsL := [(.ref a), (.int (0 : Int32)), (.int (4 : Int32))]) (rest := []) (lenOf pd_4___CII__B rfl) rfl (by show 2 * 0 + _ ≤ _; exact Nat.le_of_eq rfl) (hb hby d4_36) (fun _ _ => ⟨rfl, e2, (by decide : 0 + 2 ≤ _), (by decide : 0 + 12 ≤ _)⟩)
  dsimp only [Pt.U, Pt.locs, Pt.cells, Pt.slots] at X3 l3 y3 z3 st3 hQ3
  subst l3 y3 z3
  obtain ⟨b3, kb3, rfl, Nq3, Kq3, g_b3, sq_b3, Vq3⟩ := hQ3
  obtain ⟨h3, eh3⟩ : ∃ h, T3.heap = h := ⟨_, rfl⟩
  rw [eh3] at Kq3 Vq3
  have ne_x_b3 : x ≠ b3 := Nat.ne_of_lt (Nat.lt_of_lt_of_le EX.lt sq_b3)
  have ne_a_b3 : a ≠ b3 := Nat.ne_of_lt (Nat.lt_of_lt_of_le AC.lt sq_b3)
  have f4 := X00.keep Kq3 (all0)
  have f5 := EX.keep Kq3
  have f6 := FC.keep Kq3 nin0
  have f7 := FV.keep Kq3 nin0
  have f8 := AC.keep Kq3 nin0
  have z9 : n0 ≤ h3.size := Nat.le_trans Z0 Kq3.1
  have K10 : Keep h0 h3 [x] := (Keep.refl h0 [x]).trans Kq3 all0
  have sz_b3 : h0.size ≤ b3 := Nat.le_trans (Keep.refl h0 [x]).1 sq_b3
  have N3 := Fr.app N0 Nq3
  refine Goes.on (B := T3.setTop (mkF m 39 #[.val (.ref x), .val (.ref a), .val (.int (0 : Int32)), .val (.int (4 : Int32)), .val .null, .unset] [(.ref b3)])) (fun t k => st3 t k) ?_
  refine Goes.on (B := T3.setTop (mkF m 45 #[.val (.ref x), .val (.ref a), .val (.int (0 : Int32)), .val (.int (4 : Int32)), .val .null, .val (.ref b3)] [(.int (4 : Int32)), (.ref b3), (.ref x)])) (fun _ k => XS.astore X3.here hx rfl (hb hby d4_39) rfl rfl (l' := #[.val (.ref x), .val (.ref a), .val (.int (0 : Int32)), .val (.int (4 : Int32)), .val .null, .val (.ref b3)]) rfl (XS.aloadN X3.here hx rfl (hb hby d4_41) rfl rfl  (XS.aload X3.here hx rfl (hb hby d4_42) rfl rfl  (XS.iloadN X3.here hx rfl (hb hby d4_44) rfl  k)))) ?_
  obtain ⟨_, _, ⟨T11, L11, k11, n11⟩, -, X11, ⟨Lc11, hQ11, l11, y11, z11⟩, st11⟩ := Jvm.LawKit.callS X3 hx (y := (⟨"java/lang/StringUTF16", "coderFromArrayLen", "([BI)B"⟩ : MethodName)) hown (mvT hZ (hw _ (om 56 rfl))) (mvT hZ (hw _ (om 57 rfl))) (mvT hZ (hw _ (om 51 rfl))) (mvT hZ (hw _ (om 58 rfl))) (by decide) (backOf (W := 1) (rmcf4 l Z a0 hw [] b3 kb3 [(.int (bA c0)), (.int (bB c0)), (.int (bA c1)), (.int (bB c1)), (.int (bA c2)), (.int (bB c2)), (.int (bA c3)), (.int (bB c3))] h3 n0 z9 Vq3) hZ (hw _ (om 58 rfl)) (hw _ (om 51 rfl)) (by decide) (by decide)) (g := (mkF m 45 #[.val (.ref x), .val (.ref a), .val (.int (0 : Int32)), .val (.int (4 : Int32)), .val .null, .val (.ref b3)] [(.int (4 : Int32)), (.ref b3), (.ref x)])) rfl (by rw [hml]; rfl) (argsL := [(.ref b3), (.int (4 : Int32))]) (rest := [(.ref x)]) (lenOf pd_4___BI_B rfl) rfl (by show 2 * 0 + _ ≤ _; exact Nat.le_of_eq rfl) (hb hby d4_45) (fun _ _ => ⟨rfl, eh3, (by decide : 2 + 0 ≤ _), (by decide : 12 + 0 ≤ _)⟩)
  dsimp only [Pt.U, Pt.locs, Pt.cells, Pt.slots] at X11 l11 y11 z11 st11 hQ11
  subst l11 y11 z11
  obtain ⟨rfl, Nq11, eh11⟩ := hQ11
  have N11 := Fr.app N3 Nq11
  refine Goes.on (B := T11.setTop (mkF m 48 #[.val (.ref x), .val (.ref a), .val (.int (0 : Int32)), .val (.int (4 : Int32)), .val .null, .val (.ref b3)] [(.int (1 : Int32)), (.ref x)])) (fun t k => st11 t k) ?_
  obtain ⟨T12, h12, X12, e12, W12, st12⟩ := putF X11 hx hZ hown (host := "") (Or.inl (hw _ (om 29 rfl))) Via.refl eh11 f6 f5 (Or.inr ⟨(hw _ (om 25 rfl)), rfl, hnm⟩) (hw _ (om 9 rfl)) (ty := .byte) (by decide) rfl rfl (g := (mkF m 48 #[.val (.ref x), .val (.ref a), .val (.int (0 : Int32)), .val (.int (4 : Int32)), .val .null, .val (.ref b3)] [(.int (1 : Int32)), (.ref x)])) rfl rfl (hb hby d4_48)
  have f13 := f4.wr W12 gx
  have f14 := f5.wr W12
  have f15 := f6.same W12
  have f16 := f7.other W12 (Or.inr (slot_ne (Or.inr (hw _ (om 24 rfl))) (Or.inr (hw _ (om 25 rfl))) (by decide) (t := (.array .byte)) (t' := .byte) (by decide) (by decide)))
  have f17 := Vq3.other W12 (Ne.symm ne_x_b3)
  have z18 : n0 ≤ h12.size := Nat.le_trans z9 (Keep.of_wr W12).1
  have K19 : Keep h0 h12 [x] := K10.wr W12 (Or.inl (om 0 rfl))
  have N12 := Fr.snoc X12 N11 gx
  refine Goes.on (B := T12.setTop (mkF m 51 #[.val (.ref x), .val (.ref a), .val (.int (0 : Int32)), .val (.int (4 : Int32)), .val .null, .val (.ref b3)] [])) (fun t k => st12 t k) ?_
  refine Goes.on (B := T12.setTop (mkF m 54 #[.val (.ref x), .val (.ref a), .val (.int (0 : Int32)), .val (.int (4 : Int32)), .val .null, .val (.ref b3)] [(.ref b3), (.ref x)])) (fun _ k => XS.aloadN X12.here hx rfl (hb hby d4_51) rfl rfl  (XS.aload X12.here hx rfl (hb hby d4_52) rfl rfl  k)) ?_
  obtain ⟨T20, h20, X20, e20, W20, st20⟩ := putF X12 hx hZ hown (host := "") (Or.inl (hw _ (om 28 rfl))) Via.refl e12 f16 f14 (Or.inr ⟨(hw _ (om 24 rfl)), rfl, hnm⟩) (hw _ (om 9 rfl)) (ty := (.array .byte)) (by decide) rfl rfl (g := (mkF m 54 #[.val (.ref x), .val (.ref a), .val (.int (0 : Int32)), .val (.int (4 : Int32)), .val .null, .val (.ref b3)] [(.ref b3), (.ref x)])) rfl rfl (hb hby d4_54)
  have f21 := f13.wr W20 gx
  have f22 := f14.wr W20
  have f23 := f15.other W20 (Or.inr (slot_ne (Or.inr (hw _ (om 25 rfl))) (Or.inr (hw _ (om 24 rfl))) (by decide) (t := .byte) (t' := (.array .byte)) (by decide) (by decide)))
  have f24 := f16.same W20
  have f25 := f17.other W20 (Ne.symm ne_x_b3)
  have z26 : n0 ≤ h20.size := Nat.le_trans z18 (Keep.of_wr W20).1
  have K27 : Keep h0 h20 [x] := K19.wr W20 (Or.inl (om 0 rfl))
  have N20 := Fr.snoc X20 N12 gx
  refine Goes.on (B := T20.setTop (mkF m 57 #[.val (.ref x), .val (.ref a), .val (.int (0 : Int32)), .val (.int (4 : Int32)), .val .null, .val (.ref b3)] [])) (fun t k => st20 t k) ?_
  obtain ⟨fs, hr, hrun, hended, hW, hsame⟩ := X20.leave (v := none) (fun _ => rfl)
  exact Goes.leaf (X20.returnOut hx Bd.returns (hb hby d4_57) hr) hrun hended ⟨_, _, rfl, by show Qv4 Z x a kC c0 c1 c2 c3 GA GB h0 n0 _ T20.heap _; rw [e20]; exact ⟨rfl, N20, K27, f22, f23, b3, _, g_b3, f24, f25⟩, ⟨_, rfl⟩, hW, hsame.mono (by decide) (by decide)⟩
theorem ef_u4 (m : MethodId) (x0 : Addr) (x1 : Addr) : entryFrame m #[(.ref x0), (.ref x1)] 2 = mkF m 0 #[.val (.ref x0), .val (.ref x1)] [] := by first | (simp [entryFrame, mkF, argsToLocals, Value.category]; done) | rfl
def Qu4 (Z : State) (x : Addr) (a : Addr) (kC : ClassId) (c0 c1 c2 c3 : Int32) (GA : Int32) (GB : Value) (h0 : Heap) (n0 : Nat) (v : Option Value) (h : Heap) (L : List Loc) : Prop := v = none ∧ Fr n0 L ∧ Keep h0 h [x] ∧ Exa Z h x "java/lang/String" ∧ Fld Z h x "java/lang/String" "coder" "B" (.int (1 : Int32)) ∧ ∃ (t : Addr) (kb : ClassId), n0 ≤ t ∧ Fld Z h x "java/lang/String" "value" "[B" (.ref t) ∧ Arv Z h t kb .byte (8 : Int32) [(.int (bA c0)), (.int (bB c0)), (.int (bA c1)), (.int (bB c1)), (.int (bA c2)), (.int (bB c2)), (.int (bA c3)), (.int (bB c3))] (.int (0 : Int32))
set_option maxRecDepth 65536 in
set_option maxHeartbeats 40000000 in
theorem rmu4 (l : Launch) (Z : State) (a0 : Array Value) (hw : ∀ d ∈ tables_1, d.before a0 Z = true) (ws : List Jvm.Cond) (x : Addr) (a : Addr) (kC : ClassId) (c0 c1 c2 c3 : Int32) (GA : Int32) (GB : Value) (h0 : Heap) (n0 : Nat) (Z0 : n0 ≤ h0.size) (SS : own_St Z GA GB) (X00 : Old Z n0 h0) (EX : Exa Z h0 x "java/lang/String") (FC : Fld Z h0 x "java/lang/String" "coder" "B" (.int (0 : Int32))) (FV : Fld Z h0 x "java/lang/String" "value" "[B" .null) (gx : n0 ≤ x) (AC : Arv Z h0 a kC .char (4 : Int32) [(.int c0), (.int c1), (.int c2), (.int c3)] (.int (0 : Int32))) (r0 : own_rg c0) (r1 : own_rg c1) (r2 : own_rg c2) (r3 : own_rg c3) (hwd : ¬ (¬ (255 : Int32) < c0 ∧ ¬ (255 : Int32) < c1 ∧ ¬ (255 : Int32) < c2 ∧ ¬ (255 : Int32) < c3)) :
    MetFree l (⟨"java/lang/String", "<init>", "([C)V"⟩ : MethodName) (head1 (Jvm.Cond.code (⟨"java/lang/String", "<init>", "([C)V"⟩ : MethodName) jdk_42_method_3_code 2 none :: ws) ({ frames := 5, cells := 2, slots := 12, locals := 77 } : Room)) (fun aa U => aa = #[(.ref x), (.ref a)] ∧ Z.Warmed39 U.vm ∧ U.heap = h0) (fun _ _ _ _ _ => True) (fun _ U oo U' => ∃ vv LL, oo = .returned vv ∧ Qu4 Z x a kC c0 c1 c2 c3 GA GB h0 n0 vv U'.heap LL ∧ FrameEnd U oo U' LL ({ frames := 5, cells := 2, slots := 12, locals := 77 } : Room).cells ({ frames := 5, cells := 2, slots := 12, locals := 77 } : Room).slots) := by
  refine MetFree.of_bodySF (plainFor_of_name pn_3) hisR ?_
  intro p e s m args below meth c s₁ Bd hml0 hP hK
  obtain ⟨rfl, hZ, hh⟩ := hP
  have hx := Bd.exec
  have hby := Bd.bytes
  have hml : c.maxLocals = 2 := hml0
  have hown : s.vm.findClass "java/lang/String" = some m.cls := findClass_of_methodNamed Bd.named
  have hnm := (name_of_methodNamed Bd.named Bd.method).1
  have X0 : Stand p l e ({ frames := 5, cells := 2, slots := 12, locals := 77 } : Room) s m #[(.ref x), (.ref a)] below meth c s₁ [] 0 0 := Stand.of_body Bd
  have e0 : s₁.heap = h0 := by rw [← hh, Bd.state]; rfl
  have N0 := Fr.nil n0
  show Goes p e below _ (s₁.setTop (entryFrame m #[(.ref x), (.ref a)] 2))
  refine Goes.on (B := s₁.setTop (mkF m 0 #[.val (.ref x), .val (.ref a)] [])) (fun t k => castTop (ef_u4 m x a) k) ?_
  refine Goes.on (B := s₁.setTop (mkF m 4 #[.val (.ref x), .val (.ref a)] [(.ref a), (.int (0 : Int32)), (.ref a), (.ref x)])) (fun _ k => XS.aloadN X0.here hx rfl (hb hby d3_0) rfl rfl  (XS.aloadN X0.here hx rfl (hb hby d3_1) rfl rfl  (XS.iconst X0.here hx rfl (hb hby d3_2) (XS.aloadN X0.here hx rfl (hb hby d3_3) rfl rfl  k)))) ?_
  obtain ⟨cl1, Ar1, -, S1, Nn1, -, -⟩ := id AC
  refine Goes.on (B := s₁.setTop (mkF m 5 #[.val (.ref x), .val (.ref a)] [(.int (4 : Int32)), (.int (0 : Int32)), (.ref a), (.ref x)])) (fun t k => X0.arraylength hx (by rw [e0]; exact Ar1.1) (State.isArrayOf_alike hZ.alike Ar1.2.1) (g := (mkF m 4 #[.val (.ref x), .val (.ref a)] [(.ref a), (.int (0 : Int32)), (.ref a), (.ref x)])) rfl rfl (hb hby d3_4) t (by rw [len_of S1 Nn1]; exact k)) ?_
  refine Goes.on (B := s₁.setTop (mkF m 6 #[.val (.ref x), .val (.ref a)] [.null, (.int (4 : Int32)), (.int (0 : Int32)), (.ref a), (.ref x)])) (fun _ k => XS.aconstNull X0.here hx rfl (hb hby d3_5) k) ?_
  obtain ⟨_, _, ⟨T2, L2, k2, n2⟩, -, X2, ⟨Lc2, hQ2, l2, y2, z2⟩, st2⟩ := X0.specialBack hx (y := (⟨"java/lang/String", "<init>", "([CIILjava/lang/Void;)V"⟩ : MethodName)) rfl hown (mvT hZ (hw _ (om 15 rfl))) (mvT hZ (hw _ (om 16 rfl))) (mvT hZ (hw _ (om 18 rfl))) (by decide) (backOf (W := 0) (rmv4 l Z a0 hw [] x a kC c0 c1 c2 c3 GA GB h0 n0 Z0 SS X00 EX FC FV gx AC r0 r1 r2 r3 hwd) hZ (hw _ (om 18 rfl)) (hw _ (om 10 rfl)) (by decide) (by decide)) (g := (mkF m 6 #[.val (.ref x), .val (.ref a)] [.null, (.int (4 : Int32)), (.int (0 : Int32)), (.ref a), (.ref x)])) rfl (by rw [hml]; rfl) (Steps.refl _) (a := x) (argsL := [(.ref a), (.int (0 : Int32)), (.int (4 : Int32)), .null]) (rest := []) (lenOf pd_3___CIILjava_lang_Void__V rfl) rfl (by show 2 * 0 + _ ≤ _; exact Nat.le_of_eq rfl) (hb hby d3_6) (fun _ _ => ⟨rfl, e0, (by decide : 0 + 2 ≤ _), (by decide : 0 + 12 ≤ _)⟩)
  dsimp only [Pt.U, Pt.locs, Pt.cells, Pt.slots] at X2 l2 y2 z2 st2 hQ2
  subst l2 y2 z2
  obtain ⟨rfl, Nq2, Kq2, Eq2, Cq2, t2, kt2, gt2, Fq2, Aq2⟩ := hQ2
  obtain ⟨h2, eh2⟩ : ∃ h, T2.heap = h := ⟨_, rfl⟩
  rw [eh2] at Kq2 Eq2 Cq2 Fq2 Aq2
  have f3 := X00.keep Kq2 (allS gx all0)
  have f4 := EX.keep Kq2
  have z5 : n0 ≤ h2.size := Nat.le_trans Z0 Kq2.1
  have K6 : Keep h0 h2 [x] := (Keep.refl h0 [x]).trans Kq2 (allS (Or.inl (om 0 rfl)) all0)
  have N2 := Fr.app N0 Nq2
  refine Goes.on (B := T2.setTop (mkF m 9 #[.val (.ref x), .val (.ref a)] [])) (fun t k => st2.trans k) ?_
  obtain ⟨fs, hr, hrun, hended, hW, hsame⟩ := X2.leave (v := none) (fun _ => rfl)
  exact Goes.leaf (X2.returnOut hx Bd.returns (hb hby d3_9) hr) hrun hended ⟨_, _, rfl, by show Qu4 Z x a kC c0 c1 c2 c3 GA GB h0 n0 _ T2.heap _; rw [eh2]; exact ⟨rfl, N2, K6, Eq2, Cq2, t2, _, gt2, Fq2, Aq2⟩, ⟨_, rfl⟩, hW, hsame.mono (by decide) (by decide)⟩
def own_S0 (Z : State) (h : Heap) (x : Addr)  : Prop := Exa Z h x "java/lang/String" ∧ ∃ (t : Addr) (kb : ClassId), Fld Z h x "java/lang/String" "value" "[B" (.ref t) ∧ ((Fld Z h x "java/lang/String" "coder" "B" (.int (0 : Int32)) ∧ Arv Z h t kb .byte (0 : Int32) [] (.int (0 : Int32)) ∧ ∀ q ∈ ([] : List Int32), ¬ q < 0 ∧ ¬ (255 : Int32) < q))
def own_S1 (Z : State) (h : Heap) (x : Addr) (c0 : Int32) : Prop := Exa Z h x "java/lang/String" ∧ ∃ (t : Addr) (kb : ClassId), Fld Z h x "java/lang/String" "value" "[B" (.ref t) ∧ ((Fld Z h x "java/lang/String" "coder" "B" (.int (0 : Int32)) ∧ Arv Z h t kb .byte (1 : Int32) [(.int (c0.toInt8.toInt32))] (.int (0 : Int32)) ∧ ∀ q ∈ ([c0] : List Int32), ¬ q < 0 ∧ ¬ (255 : Int32) < q) ∨ (Fld Z h x "java/lang/String" "coder" "B" (.int (1 : Int32)) ∧ Arv Z h t kb .byte (2 : Int32) [(.int (bA c0)), (.int (bB c0))] (.int (0 : Int32))))
def own_S2 (Z : State) (h : Heap) (x : Addr) (c0 c1 : Int32) : Prop := Exa Z h x "java/lang/String" ∧ ∃ (t : Addr) (kb : ClassId), Fld Z h x "java/lang/String" "value" "[B" (.ref t) ∧ ((Fld Z h x "java/lang/String" "coder" "B" (.int (0 : Int32)) ∧ Arv Z h t kb .byte (2 : Int32) [(.int (c0.toInt8.toInt32)), (.int (c1.toInt8.toInt32))] (.int (0 : Int32)) ∧ ∀ q ∈ ([c0, c1] : List Int32), ¬ q < 0 ∧ ¬ (255 : Int32) < q) ∨ (Fld Z h x "java/lang/String" "coder" "B" (.int (1 : Int32)) ∧ Arv Z h t kb .byte (4 : Int32) [(.int (bA c0)), (.int (bB c0)), (.int (bA c1)), (.int (bB c1))] (.int (0 : Int32))))
def own_S3 (Z : State) (h : Heap) (x : Addr) (c0 c1 c2 : Int32) : Prop := Exa Z h x "java/lang/String" ∧ ∃ (t : Addr) (kb : ClassId), Fld Z h x "java/lang/String" "value" "[B" (.ref t) ∧ ((Fld Z h x "java/lang/String" "coder" "B" (.int (0 : Int32)) ∧ Arv Z h t kb .byte (3 : Int32) [(.int (c0.toInt8.toInt32)), (.int (c1.toInt8.toInt32)), (.int (c2.toInt8.toInt32))] (.int (0 : Int32)) ∧ ∀ q ∈ ([c0, c1, c2] : List Int32), ¬ q < 0 ∧ ¬ (255 : Int32) < q) ∨ (Fld Z h x "java/lang/String" "coder" "B" (.int (1 : Int32)) ∧ Arv Z h t kb .byte (6 : Int32) [(.int (bA c0)), (.int (bB c0)), (.int (bA c1)), (.int (bB c1)), (.int (bA c2)), (.int (bB c2))] (.int (0 : Int32))))
def own_S4 (Z : State) (h : Heap) (x : Addr) (c0 c1 c2 c3 : Int32) : Prop := Exa Z h x "java/lang/String" ∧ ∃ (t : Addr) (kb : ClassId), Fld Z h x "java/lang/String" "value" "[B" (.ref t) ∧ ((Fld Z h x "java/lang/String" "coder" "B" (.int (0 : Int32)) ∧ Arv Z h t kb .byte (4 : Int32) [(.int (c0.toInt8.toInt32)), (.int (c1.toInt8.toInt32)), (.int (c2.toInt8.toInt32)), (.int (c3.toInt8.toInt32))] (.int (0 : Int32)) ∧ ∀ q ∈ ([c0, c1, c2, c3] : List Int32), ¬ q < 0 ∧ ¬ (255 : Int32) < q) ∨ (Fld Z h x "java/lang/String" "coder" "B" (.int (1 : Int32)) ∧ Arv Z h t kb .byte (8 : Int32) [(.int (bA c0)), (.int (bB c0)), (.int (bA c1)), (.int (bB c1)), (.int (bA c2)), (.int (bB c2)), (.int (bA c3)), (.int (bB c3))] (.int (0 : Int32))))
theorem d2_0 : decode method_4_code 0 = .ok (.iload_n 0, 1) := by decide +kernel
theorem d2_1 : decode method_4_code 1 = .ok (.ifCond .ne 14, 3) := by decide +kernel
theorem d2_15 : decode method_4_code 15 = .ok (.iload_n 0, 1) := by decide +kernel
theorem d2_16 : decode method_4_code 16 = .ok (.iconst 1, 1) := by decide +kernel
theorem d2_17 : decode method_4_code 17 = .ok (.if_icmp .ne 18, 3) := by decide +kernel
theorem d2_20 : decode method_4_code 20 = .ok (.new 7, 3) := by decide +kernel
theorem d2_23 : decode method_4_code 23 = .ok (.dup, 1) := by decide +kernel
theorem d2_24 : decode method_4_code 24 = .ok (.iconst 1, 1) := by decide +kernel
theorem d2_25 : decode method_4_code 25 = .ok (.newarray .char, 2) := by decide +kernel
theorem d2_27 : decode method_4_code 27 = .ok (.dup, 1) := by decide +kernel
theorem d2_28 : decode method_4_code 28 = .ok (.iconst 0, 1) := by decide +kernel
theorem d2_29 : decode method_4_code 29 = .ok (.iload_n 1, 1) := by decide +kernel
theorem d2_30 : decode method_4_code 30 = .ok (.castore, 1) := by decide +kernel
theorem d2_31 : decode method_4_code 31 = .ok (.invokespecial 9, 3) := by decide +kernel
theorem d2_34 : decode method_4_code 34 = .ok (.areturn, 1) := by decide +kernel
theorem pn_2 : plainName "com/example/heirloom_archive/heirloomarchive/model/TextIsWhiteSpacePinLaw" = true := by first | (simp [plainName, overriddenIn]; done) | decide +kernel
theorem pd_2___C_V : parseMethodDescriptor "([C)V" = some ⟨[(.array .char)], none⟩ := by decide +kernel
theorem ef_k1 (m : MethodId) (x0 : Int32) (x1 : Int32) (x2 : Int32) (x3 : Int32) (x4 : Int32) : entryFrame m #[(.int x0), (.int x1), (.int x2), (.int x3), (.int x4)] 5 = mkF m 0 #[.val (.int x0), .val (.int x1), .val (.int x2), .val (.int x3), .val (.int x4)] [] := by first | (simp [entryFrame, mkF, argsToLocals, Value.category]; done) | rfl
def Qk1 (Z : State) (c0 : Int32) (c1 : Int32) (c2 : Int32) (c3 : Int32) (GA : Int32) (GB : Value) (h0 : Heap) (n0 : Nat) (v : Option Value) (h : Heap) (L : List Loc) : Prop := ∃ x, v = some (.ref x) ∧ Fr n0 L ∧ Keep h0 h [] ∧ n0 ≤ x ∧ own_S1 Z h x c0
set_option maxRecDepth 65536 in
set_option maxHeartbeats 40000000 in
theorem rmk1 (l : Launch) (Z : State) (a0 : Array Value) (hw : ∀ d ∈ tables_1, d.before a0 Z = true) (ws : List Jvm.Cond) (c0 : Int32) (c1 : Int32) (c2 : Int32) (c3 : Int32) (GA : Int32) (GB : Value) (h0 : Heap) (n0 : Nat) (Z0 : n0 ≤ h0.size) (SS : own_St Z GA GB) (X00 : Old Z n0 h0) (r0 : own_rg c0) (r1 : own_rg c1) (r2 : own_rg c2) (r3 : own_rg c3) :
    MetFree l (⟨"com/example/heirloom_archive/heirloomarchive/model/TextIsWhiteSpacePinLaw", "make", "(ICCCC)Ljava/lang/String;"⟩ : MethodName) (head1 (Jvm.Cond.code (⟨"com/example/heirloom_archive/heirloomarchive/model/TextIsWhiteSpacePinLaw", "make", "(ICCCC)Ljava/lang/String;"⟩ : MethodName) method_4_code 5 (some (.object "java/lang/String")) :: ws) ({ frames := 6, cells := 4, slots := 8, locals := 100 } : Room)) (fun aa U => aa = #[(.int (1 : Int32)), (.int c0), (.int c1), (.int c2), (.int c3)] ∧ Z.Warmed39 U.vm ∧ U.heap = h0) (fun _ _ _ _ _ => True) (fun _ U oo U' => ∃ vv LL, oo = .returned vv ∧ Qk1 Z c0 c1 c2 c3 GA GB h0 n0 vv U'.heap LL ∧ FrameEnd U oo U' LL ({ frames := 6, cells := 4, slots := 8, locals := 100 } : Room).cells ({ frames := 6, cells := 4, slots := 8, locals := 100 } : Room).slots) := by
  refine MetFree.of_bodySF (plainFor_of_name pn_2) hisR ?_
  intro p e s m args below meth c s₁ Bd hml0 hP hK
  obtain ⟨rfl, hZ, hh⟩ := hP
  have hx := Bd.exec
  have hby := Bd.bytes
  have hml : c.maxLocals = 5 := hml0
  have hown : s.vm.findClass "com/example/heirloom_archive/heirloomarchive/model/TextIsWhiteSpacePinLaw" = some m.cls := findClass_of_methodNamed Bd.named
  have hnm := (name_of_methodNamed Bd.named Bd.method).1
  have X0 : Stand p l e ({ frames := 6, cells := 4, slots := 8, locals := 100 } : Room) s m #[(.int (1 : Int32)), (.int c0), (.int c1), (.int c2), (.int c3)] below meth c s₁ [] 0 0 := Stand.of_body Bd
  have e0 : s₁.heap = h0 := by rw [← hh, Bd.state]; rfl
  have N0 := Fr.nil n0
  show Goes p e below _ (s₁.setTop (entryFrame m #[(.int (1 : Int32)), (.int c0), (.int c1), (.int c2), (.int c3)] 5))
  refine Goes.on (B := s₁.setTop (mkF m 0 #[.val (.int (1 : Int32)), .val (.int c0), .val (.int c1), .val (.int c2), .val (.int c3)] [])) (fun t k => castTop (ef_k1 m (1 : Int32) c0 c1 c2 c3) k) ?_
  refine Goes.on (B := s₁.setTop (mkF m 20 #[.val (.int (1 : Int32)), .val (.int c0), .val (.int c1), .val (.int c2), .val (.int c3)] [])) (fun _ k => XS.iloadN X0.here hx rfl (hb hby d2_0) rfl  (XS.ifYes X0.here hx rfl (pc0 := 1) (pc' := 15) rfl (hb hby d2_1) rfl ((if0 _ _).trans (feq (by decide)).2) (by decide) (by decide) (XS.iloadN X0.here hx rfl (hb hby d2_15) rfl  (XS.iconst X0.here hx rfl (hb hby d2_16) (XS.icmpNo X0.here hx rfl (hb hby d2_17) rfl (teq (by decide)).2 k))))) ?_
  obtain ⟨T1, h1, X1, e1, E1, A1, D1, -, st1⟩ := newO X0 hx hZ hown (hw _ (om 8 rfl)) (hw _ (om 9 rfl)) (hw _ (om 10 rfl)) e0 (g := (mkF m 20 #[.val (.int (1 : Int32)), .val (.int c0), .val (.int c1), .val (.int c2), .val (.int c3)] [])) rfl (hb hby d2_20) (by decide) (by decide)
  obtain ⟨b1, g1⟩ : ∃ z, z = h0.size := ⟨_, rfl⟩
  rw [← g1] at A1 D1 st1
  have f2 := X00.ext E1
  have z3 : n0 ≤ h1.size := Nat.le_trans Z0 E1.1
  have K4 : Keep h0 h1 [] := (Keep.refl h0 []).ext E1
  have g_b1 : n0 ≤ b1 := Nat.le_trans Z0 (Nat.le_of_eq g1.symm)
  have sz_b1 : h0.size ≤ b1 := Nat.le_trans (Keep.refl h0 []).1 (Nat.le_of_eq g1.symm)
  have F1_value : Fld Z h1 b1 "java/lang/String" "value" "[B" .null := D1 (Or.inr (hw _ (om 24 rfl))) (ty := (.array .byte)) (by decide)
  have F1_coder : Fld Z h1 b1 "java/lang/String" "coder" "B" (.int (0 : Int32)) := D1 (Or.inr (hw _ (om 25 rfl))) (ty := .byte) (by decide)
  refine Goes.on (B := T1.setTop (mkF m 23 #[.val (.int (1 : Int32)), .val (.int c0), .val (.int c1), .val (.int c2), .val (.int c3)] [(.ref b1)])) (fun t k => st1 t k) ?_
  refine Goes.on (B := T1.setTop (mkF m 25 #[.val (.int (1 : Int32)), .val (.int c0), .val (.int c1), .val (.int c2), .val (.int c3)] [(.int (1 : Int32)), (.ref b1), (.ref b1)])) (fun _ k => XS.dup X1.here hx rfl (hb hby d2_23) rfl rfl (XS.iconst X1.here hx rfl (hb hby d2_24) k)) ?_
  obtain ⟨T5, h5, k5, X5, e5, E5, A5, st5⟩ := newP X1 hx hZ (hw _ (om 11 rfl)) e1 (g := (mkF m 25 #[.val (.int (1 : Int32)), .val (.int c0), .val (.int c1), .val (.int c2), .val (.int c3)] [(.int (1 : Int32)), (.ref b1), (.ref b1)])) rfl (hb hby d2_25) rfl (by decide) (cap := 1) (by decide) (by decide) (by decide) (by decide)
  obtain ⟨b5, g5⟩ : ∃ z, z = h1.size := ⟨_, rfl⟩
  rw [← g5] at A5 st5
  have ne_b1_b5 : b1 ≠ b5 := Nat.ne_of_lt (Nat.lt_of_lt_of_le A1.lt (Nat.le_of_eq g5.symm))
  have f6 := f2.ext E5
  have f7 := A1.ext E5
  have f8 := F1_value.ext E5
  have f9 := F1_coder.ext E5
  have z10 : n0 ≤ h5.size := Nat.le_trans z3 E5.1
  have K11 : Keep h0 h5 [] := K4.ext E5
  have g_b5 : n0 ≤ b5 := Nat.le_trans z3 (Nat.le_of_eq g5.symm)
  have sz_b5 : h0.size ≤ b5 := Nat.le_trans K4.1 (Nat.le_of_eq g5.symm)
  have V5 : Arv Z h5 b5 k5 .char (1 : Int32) [(.int (0 : Int32))] (.int (0 : Int32)) := (Arv.new A5 (by decide)).pad (pad_rep [] (.int (0 : Int32)) 1)
  refine Goes.on (B := T5.setTop (mkF m 27 #[.val (.int (1 : Int32)), .val (.int c0), .val (.int c1), .val (.int c2), .val (.int c3)] [(.ref b5), (.ref b1), (.ref b1)])) (fun t k => st5 t k) ?_
  refine Goes.on (B := T5.setTop (mkF m 30 #[.val (.int (1 : Int32)), .val (.int c0), .val (.int c1), .val (.int c2), .val (.int c3)] [(.int c0), (.int (0 : Int32)), (.ref b5), (.ref b5), (.ref b1), (.ref b1)])) (fun _ k => XS.dup X5.here hx rfl (hb hby d2_27) rfl rfl (XS.iconst X5.here hx rfl (hb hby d2_28) (XS.iloadN X5.here hx rfl (hb hby d2_29) rfl  k))) ?_
  obtain ⟨cl12, Ar12, q12, S12, Nn12, H12, G12⟩ := id V5
  have hin12 : ¬ ((0 : Int32) < 0 ∨ cl12.slots.size ≤ ((0 : Int32)).toNatClampNeg) := inb_of S12 ⟨by decide, by decide⟩
  obtain ⟨T13, h13, X13, e13, W13, st13⟩ := stC X5 hx hZ e5 Ar12 (j := (0 : Int32)) hin12 (g := (mkF m 30 #[.val (.int (1 : Int32)), .val (.int c0), .val (.int c1), .val (.int c2), .val (.int c3)] [(.int c0), (.int (0 : Int32)), (.ref b5), (.ref b5), (.ref b1), (.ref b1)])) rfl rfl (hb hby d2_30)
  have V13 : Arv Z h13 b5 k5 .char (1 : Int32) [(.int (nar .char c0))] (.int (0 : Int32)) := Arv.set Ar12 q12 S12 Nn12 H12 G12 (fits_nar_char _) W13 0 rfl (Nat.le_of_ble_eq_true rfl)
  have f14 := f6.wr W13 g_b5
  have f15 := f7.wr W13
  have f16 := f8.other W13 (Or.inl ne_b1_b5)
  have f17 := f9.other W13 (Or.inl ne_b1_b5)
  have z18 : n0 ≤ h13.size := Nat.le_trans z10 (Keep.of_wr W13).1
  have K19 : Keep h0 h13 [] := K11.wr W13 (Or.inr sz_b5)
  have N13 := Fr.snoc X13 N0 g_b5
  refine Goes.on (B := T13.setTop (mkF m 31 #[.val (.int (1 : Int32)), .val (.int c0), .val (.int c1), .val (.int c2), .val (.int c3)] [(.ref b5), (.ref b1), (.ref b1)])) (fun t k => st13 t k) ?_
  have VC : Arv Z h13 b5 k5 .char (1 : Int32) [(.int c0)] (.int (0 : Int32)) := by
    have q := V13
    rw [own_narc r0] at q
    exact q
  by_cases hall : (¬ (255 : Int32) < c0)
  · have v0 := hall
    have hp : ∀ q ∈ ([c0] : List Int32), ¬ q < 0 ∧ ¬ (255 : Int32) < q := by
      intro q hq
      simp only [List.mem_cons, List.not_mem_nil, or_false] at hq
      rcases hq with rfl
      · exact ⟨r0.1, v0⟩
    have hws : ∀ d ∈ StrChars.Road.words, d.before a0 Z = true := fun d hd => hw d ((by decide +kernel : ∀ d ∈ StrChars.Road.words, d ∈ tables_1) d hd)
    obtain ⟨_, _, ⟨T20, L20, k20, n20⟩, -, X20, ⟨Lc20, hQ20, l20, y20, z20⟩, st20⟩ := X13.specialBack hx (y := (⟨"java/lang/String", "<init>", "([C)V"⟩ : MethodName)) rfl hown (mvT hZ (hw _ (om 12 rfl))) (mvT hZ (hw _ (om 13 rfl))) (mvT hZ (hw _ (om 14 rfl))) (by decide) (StrChars.Road.backV (W := 1) hZ hws (kI := 4) (hw _ (om 9 rfl)) (cs := ([c0] : List Int32)) (bs := (([c0] : List Int32)).map (fun c => c.toInt8.toInt32)) (n := 1) g_b1 z18 f15 f16 f17 VC (SS.1.ext f14.2) SS.2.1 rfl rfl (by decide) (by decide) hp rfl (by decide) (by decide)) (g := (mkF m 31 #[.val (.int (1 : Int32)), .val (.int c0), .val (.int c1), .val (.int c2), .val (.int c3)] [(.ref b5), (.ref b1), (.ref b1)])) rfl (by rw [hml]; rfl) (Steps.refl _) (a := b1) (argsL := [(.ref b5)]) (rest := [(.ref b1)]) (lenOf pd_2___C_V rfl) rfl (by show 2 * 0 + _ ≤ _; exact Nat.le_of_eq rfl) (hb hby d2_31) (fun _ _ => ⟨rfl, e13, (by decide : 2 + 1 ≤ _), (by decide : 5 + 1 ≤ _)⟩)
    dsimp only [Pt.U, Pt.locs, Pt.cells, Pt.slots] at X20 l20 y20 z20 st20 hQ20
    subst l20 y20 z20
    obtain ⟨rfl, Nq20, Kq20, Eq20, Cq20, t20, kt20, -, -, -, Fq20, Aq20⟩ := hQ20
    obtain ⟨h20, eh20⟩ : ∃ h, T20.heap = h := ⟨_, rfl⟩
    rw [eh20] at Kq20 Eq20 Cq20 Fq20 Aq20
    have f21 := f14.keep Kq20 (allS g_b1 all0)
    have f22 := f15.keep Kq20
    have f23 := VC.keep Kq20 (ninS (Ne.symm ne_b1_b5) nin0)
    have z24 : n0 ≤ h20.size := Nat.le_trans z18 Kq20.1
    have K25 : Keep h0 h20 [] := K19.trans Kq20 (allS (Or.inr sz_b1) all0)
    have N20 := Fr.app N13 Nq20
    refine Goes.on (B := T20.setTop (mkF m 34 #[.val (.int (1 : Int32)), .val (.int c0), .val (.int c1), .val (.int c2), .val (.int c3)] [(.ref b1)])) (fun t k => st20.trans k) ?_
    obtain ⟨fs, hr, hrun, hended, hW, hsame⟩ := X20.leave (v := some (.ref b1)) (fun h => by rw [Bd.returns] at h; cases h)
    exact Goes.leaf (own_retR X20 hx Bd.returns rfl rfl (hb hby d2_34) hr) hrun hended ⟨_, _, rfl, by show Qk1 Z c0 c1 c2 c3 GA GB h0 n0 _ T20.heap _; rw [eh20]; exact ⟨b1, rfl, N20, K25, g_b1, Eq20, t20, kt20, Fq20, Or.inl ⟨Cq20, Aq20, hp⟩⟩, ⟨_, rfl⟩, hW, hsame.mono (by decide) (by decide)⟩
  · have hwd := hall
    obtain ⟨_, _, ⟨T26, L26, k26, n26⟩, -, X26, ⟨Lc26, hQ26, l26, y26, z26⟩, st26⟩ := X13.specialBack hx (y := (⟨"java/lang/String", "<init>", "([C)V"⟩ : MethodName)) rfl hown (mvT hZ (hw _ (om 12 rfl))) (mvT hZ (hw _ (om 13 rfl))) (mvT hZ (hw _ (om 14 rfl))) (by decide) (backOf (W := 1) (rmu1 l Z a0 hw [] b1 b5 k5 c0 GA GB h13 n0 z18 SS f14 f15 f17 f16 g_b1 VC r0 hwd) hZ (hw _ (om 14 rfl)) (hw _ (om 10 rfl)) (by decide) (by decide)) (g := (mkF m 31 #[.val (.int (1 : Int32)), .val (.int c0), .val (.int c1), .val (.int c2), .val (.int c3)] [(.ref b5), (.ref b1), (.ref b1)])) rfl (by rw [hml]; rfl) (Steps.refl _) (a := b1) (argsL := [(.ref b5)]) (rest := [(.ref b1)]) (lenOf pd_2___C_V rfl) rfl (by show 2 * 0 + _ ≤ _; exact Nat.le_of_eq rfl) (hb hby d2_31) (fun _ _ => ⟨rfl, e13, (by decide : 2 + 2 ≤ _), (by decide : 5 + 3 ≤ _)⟩)
    dsimp only [Pt.U, Pt.locs, Pt.cells, Pt.slots] at X26 l26 y26 z26 st26 hQ26
    subst l26 y26 z26
    obtain ⟨rfl, Nq26, Kq26, Eq26, Cq26, t26, kt26, gt26, Fq26, Aq26⟩ := hQ26
    obtain ⟨h26, eh26⟩ : ∃ h, T26.heap = h := ⟨_, rfl⟩
    rw [eh26] at Kq26 Eq26 Cq26 Fq26 Aq26
    have f27 := f14.keep Kq26 (allS g_b1 all0)
    have f28 := f15.keep Kq26
    have f29 := VC.keep Kq26 (ninS (Ne.symm ne_b1_b5) nin0)
    have z30 : n0 ≤ h26.size := Nat.le_trans z18 Kq26.1
    have K31 : Keep h0 h26 [] := K19.trans Kq26 (allS (Or.inr sz_b1) all0)
    have N26 := Fr.app N13 Nq26
    refine Goes.on (B := T26.setTop (mkF m 34 #[.val (.int (1 : Int32)), .val (.int c0), .val (.int c1), .val (.int c2), .val (.int c3)] [(.ref b1)])) (fun t k => st26.trans k) ?_
    obtain ⟨fs, hr, hrun, hended, hW, hsame⟩ := X26.leave (v := some (.ref b1)) (fun h => by rw [Bd.returns] at h; cases h)
    exact Goes.leaf (own_retR X26 hx Bd.returns rfl rfl (hb hby d2_34) hr) hrun hended ⟨_, _, rfl, by show Qk1 Z c0 c1 c2 c3 GA GB h0 n0 _ T26.heap _; rw [eh26]; exact ⟨b1, rfl, N26, K31, g_b1, Eq26, t26, _, Fq26, Or.inr ⟨Cq26, Aq26⟩⟩, ⟨_, rfl⟩, hW, hsame.mono (by decide) (by decide)⟩
theorem d2_35 : decode method_4_code 35 = .ok (.iload_n 0, 1) := by decide +kernel
theorem d2_36 : decode method_4_code 36 = .ok (.iconst 2, 1) := by decide +kernel
theorem d2_37 : decode method_4_code 37 = .ok (.if_icmp .ne 22, 3) := by decide +kernel
theorem d2_40 : decode method_4_code 40 = .ok (.new 7, 3) := by decide +kernel
theorem d2_43 : decode method_4_code 43 = .ok (.dup, 1) := by decide +kernel
theorem d2_44 : decode method_4_code 44 = .ok (.iconst 2, 1) := by decide +kernel
theorem d2_45 : decode method_4_code 45 = .ok (.newarray .char, 2) := by decide +kernel
theorem d2_47 : decode method_4_code 47 = .ok (.dup, 1) := by decide +kernel
theorem d2_48 : decode method_4_code 48 = .ok (.iconst 0, 1) := by decide +kernel
theorem d2_49 : decode method_4_code 49 = .ok (.iload_n 1, 1) := by decide +kernel
theorem d2_50 : decode method_4_code 50 = .ok (.castore, 1) := by decide +kernel
theorem d2_51 : decode method_4_code 51 = .ok (.dup, 1) := by decide +kernel
theorem d2_52 : decode method_4_code 52 = .ok (.iconst 1, 1) := by decide +kernel
theorem d2_53 : decode method_4_code 53 = .ok (.iload_n 2, 1) := by decide +kernel
theorem d2_54 : decode method_4_code 54 = .ok (.castore, 1) := by decide +kernel
theorem d2_55 : decode method_4_code 55 = .ok (.invokespecial 9, 3) := by decide +kernel
theorem d2_58 : decode method_4_code 58 = .ok (.areturn, 1) := by decide +kernel
theorem ef_k2 (m : MethodId) (x0 : Int32) (x1 : Int32) (x2 : Int32) (x3 : Int32) (x4 : Int32) : entryFrame m #[(.int x0), (.int x1), (.int x2), (.int x3), (.int x4)] 5 = mkF m 0 #[.val (.int x0), .val (.int x1), .val (.int x2), .val (.int x3), .val (.int x4)] [] := by first | (simp [entryFrame, mkF, argsToLocals, Value.category]; done) | rfl
def Qk2 (Z : State) (c0 : Int32) (c1 : Int32) (c2 : Int32) (c3 : Int32) (GA : Int32) (GB : Value) (h0 : Heap) (n0 : Nat) (v : Option Value) (h : Heap) (L : List Loc) : Prop := ∃ x, v = some (.ref x) ∧ Fr n0 L ∧ Keep h0 h [] ∧ n0 ≤ x ∧ own_S2 Z h x c0 c1
set_option maxRecDepth 65536 in
set_option maxHeartbeats 40000000 in
theorem rmk2 (l : Launch) (Z : State) (a0 : Array Value) (hw : ∀ d ∈ tables_1, d.before a0 Z = true) (ws : List Jvm.Cond) (c0 : Int32) (c1 : Int32) (c2 : Int32) (c3 : Int32) (GA : Int32) (GB : Value) (h0 : Heap) (n0 : Nat) (Z0 : n0 ≤ h0.size) (SS : own_St Z GA GB) (X00 : Old Z n0 h0) (r0 : own_rg c0) (r1 : own_rg c1) (r2 : own_rg c2) (r3 : own_rg c3) :
    MetFree l (⟨"com/example/heirloom_archive/heirloomarchive/model/TextIsWhiteSpacePinLaw", "make", "(ICCCC)Ljava/lang/String;"⟩ : MethodName) (head1 (Jvm.Cond.code (⟨"com/example/heirloom_archive/heirloomarchive/model/TextIsWhiteSpacePinLaw", "make", "(ICCCC)Ljava/lang/String;"⟩ : MethodName) method_4_code 5 (some (.object "java/lang/String")) :: ws) ({ frames := 6, cells := 4, slots := 12, locals := 100 } : Room)) (fun aa U => aa = #[(.int (2 : Int32)), (.int c0), (.int c1), (.int c2), (.int c3)] ∧ Z.Warmed39 U.vm ∧ U.heap = h0) (fun _ _ _ _ _ => True) (fun _ U oo U' => ∃ vv LL, oo = .returned vv ∧ Qk2 Z c0 c1 c2 c3 GA GB h0 n0 vv U'.heap LL ∧ FrameEnd U oo U' LL ({ frames := 6, cells := 4, slots := 12, locals := 100 } : Room).cells ({ frames := 6, cells := 4, slots := 12, locals := 100 } : Room).slots) := by
  refine MetFree.of_bodySF (plainFor_of_name pn_2) hisR ?_
  intro p e s m args below meth c s₁ Bd hml0 hP hK
  obtain ⟨rfl, hZ, hh⟩ := hP
  have hx := Bd.exec
  have hby := Bd.bytes
  have hml : c.maxLocals = 5 := hml0
  have hown : s.vm.findClass "com/example/heirloom_archive/heirloomarchive/model/TextIsWhiteSpacePinLaw" = some m.cls := findClass_of_methodNamed Bd.named
  have hnm := (name_of_methodNamed Bd.named Bd.method).1
  have X0 : Stand p l e ({ frames := 6, cells := 4, slots := 12, locals := 100 } : Room) s m #[(.int (2 : Int32)), (.int c0), (.int c1), (.int c2), (.int c3)] below meth c s₁ [] 0 0 := Stand.of_body Bd
  have e0 : s₁.heap = h0 := by rw [← hh, Bd.state]; rfl
  have N0 := Fr.nil n0
  show Goes p e below _ (s₁.setTop (entryFrame m #[(.int (2 : Int32)), (.int c0), (.int c1), (.int c2), (.int c3)] 5))
  refine Goes.on (B := s₁.setTop (mkF m 0 #[.val (.int (2 : Int32)), .val (.int c0), .val (.int c1), .val (.int c2), .val (.int c3)] [])) (fun t k => castTop (ef_k2 m (2 : Int32) c0 c1 c2 c3) k) ?_
  refine Goes.on (B := s₁.setTop (mkF m 40 #[.val (.int (2 : Int32)), .val (.int c0), .val (.int c1), .val (.int c2), .val (.int c3)] [])) (fun _ k => XS.iloadN X0.here hx rfl (hb hby d2_0) rfl  (XS.ifYes X0.here hx rfl (pc0 := 1) (pc' := 15) rfl (hb hby d2_1) rfl ((if0 _ _).trans (feq (by decide)).2) (by decide) (by decide) (XS.iloadN X0.here hx rfl (hb hby d2_15) rfl  (XS.iconst X0.here hx rfl (hb hby d2_16) (XS.icmpYes X0.here hx rfl (pc0 := 17) (pc' := 35) rfl (hb hby d2_17) rfl (feq (by decide)).2 (by decide) (by decide) (XS.iloadN X0.here hx rfl (hb hby d2_35) rfl  (XS.iconst X0.here hx rfl (hb hby d2_36) (XS.icmpNo X0.here hx rfl (hb hby d2_37) rfl (teq (by decide)).2 k)))))))) ?_
  obtain ⟨T1, h1, X1, e1, E1, A1, D1, -, st1⟩ := newO X0 hx hZ hown (hw _ (om 8 rfl)) (hw _ (om 9 rfl)) (hw _ (om 10 rfl)) e0 (g := (mkF m 40 #[.val (.int (2 : Int32)), .val (.int c0), .val (.int c1), .val (.int c2), .val (.int c3)] [])) rfl (hb hby d2_40) (by decide) (by decide)
  obtain ⟨b1, g1⟩ : ∃ z, z = h0.size := ⟨_, rfl⟩
  rw [← g1] at A1 D1 st1
  have f2 := X00.ext E1
  have z3 : n0 ≤ h1.size := Nat.le_trans Z0 E1.1
  have K4 : Keep h0 h1 [] := (Keep.refl h0 []).ext E1
  have g_b1 : n0 ≤ b1 := Nat.le_trans Z0 (Nat.le_of_eq g1.symm)
  have sz_b1 : h0.size ≤ b1 := Nat.le_trans (Keep.refl h0 []).1 (Nat.le_of_eq g1.symm)
  have F1_value : Fld Z h1 b1 "java/lang/String" "value" "[B" .null := D1 (Or.inr (hw _ (om 24 rfl))) (ty := (.array .byte)) (by decide)
  have F1_coder : Fld Z h1 b1 "java/lang/String" "coder" "B" (.int (0 : Int32)) := D1 (Or.inr (hw _ (om 25 rfl))) (ty := .byte) (by decide)
  refine Goes.on (B := T1.setTop (mkF m 43 #[.val (.int (2 : Int32)), .val (.int c0), .val (.int c1), .val (.int c2), .val (.int c3)] [(.ref b1)])) (fun t k => st1 t k) ?_
  refine Goes.on (B := T1.setTop (mkF m 45 #[.val (.int (2 : Int32)), .val (.int c0), .val (.int c1), .val (.int c2), .val (.int c3)] [(.int (2 : Int32)), (.ref b1), (.ref b1)])) (fun _ k => XS.dup X1.here hx rfl (hb hby d2_43) rfl rfl (XS.iconst X1.here hx rfl (hb hby d2_44) k)) ?_
  obtain ⟨T5, h5, k5, X5, e5, E5, A5, st5⟩ := newP X1 hx hZ (hw _ (om 11 rfl)) e1 (g := (mkF m 45 #[.val (.int (2 : Int32)), .val (.int c0), .val (.int c1), .val (.int c2), .val (.int c3)] [(.int (2 : Int32)), (.ref b1), (.ref b1)])) rfl (hb hby d2_45) rfl (by decide) (cap := 2) (by decide) (by decide) (by decide) (by decide)
  obtain ⟨b5, g5⟩ : ∃ z, z = h1.size := ⟨_, rfl⟩
  rw [← g5] at A5 st5
  have ne_b1_b5 : b1 ≠ b5 := Nat.ne_of_lt (Nat.lt_of_lt_of_le A1.lt (Nat.le_of_eq g5.symm))
  have f6 := f2.ext E5
  have f7 := A1.ext E5
  have f8 := F1_value.ext E5
  have f9 := F1_coder.ext E5
  have z10 : n0 ≤ h5.size := Nat.le_trans z3 E5.1
  have K11 : Keep h0 h5 [] := K4.ext E5
  have g_b5 : n0 ≤ b5 := Nat.le_trans z3 (Nat.le_of_eq g5.symm)
  have sz_b5 : h0.size ≤ b5 := Nat.le_trans K4.1 (Nat.le_of_eq g5.symm)
  have V5 : Arv Z h5 b5 k5 .char (2 : Int32) [(.int (0 : Int32)), (.int (0 : Int32))] (.int (0 : Int32)) := (Arv.new A5 (by decide)).pad (pad_rep [] (.int (0 : Int32)) 2)
  refine Goes.on (B := T5.setTop (mkF m 47 #[.val (.int (2 : Int32)), .val (.int c0), .val (.int c1), .val (.int c2), .val (.int c3)] [(.ref b5), (.ref b1), (.ref b1)])) (fun t k => st5 t k) ?_
  refine Goes.on (B := T5.setTop (mkF m 50 #[.val (.int (2 : Int32)), .val (.int c0), .val (.int c1), .val (.int c2), .val (.int c3)] [(.int c0), (.int (0 : Int32)), (.ref b5), (.ref b5), (.ref b1), (.ref b1)])) (fun _ k => XS.dup X5.here hx rfl (hb hby d2_47) rfl rfl (XS.iconst X5.here hx rfl (hb hby d2_48) (XS.iloadN X5.here hx rfl (hb hby d2_49) rfl  k))) ?_
  obtain ⟨cl12, Ar12, q12, S12, Nn12, H12, G12⟩ := id V5
  have hin12 : ¬ ((0 : Int32) < 0 ∨ cl12.slots.size ≤ ((0 : Int32)).toNatClampNeg) := inb_of S12 ⟨by decide, by decide⟩
  obtain ⟨T13, h13, X13, e13, W13, st13⟩ := stC X5 hx hZ e5 Ar12 (j := (0 : Int32)) hin12 (g := (mkF m 50 #[.val (.int (2 : Int32)), .val (.int c0), .val (.int c1), .val (.int c2), .val (.int c3)] [(.int c0), (.int (0 : Int32)), (.ref b5), (.ref b5), (.ref b1), (.ref b1)])) rfl rfl (hb hby d2_50)
  have V13 : Arv Z h13 b5 k5 .char (2 : Int32) [(.int (nar .char c0)), (.int (0 : Int32))] (.int (0 : Int32)) := Arv.set Ar12 q12 S12 Nn12 H12 G12 (fits_nar_char _) W13 0 rfl (Nat.le_of_ble_eq_true rfl)
  have f14 := f6.wr W13 g_b5
  have f15 := f7.wr W13
  have f16 := f8.other W13 (Or.inl ne_b1_b5)
  have f17 := f9.other W13 (Or.inl ne_b1_b5)
  have z18 : n0 ≤ h13.size := Nat.le_trans z10 (Keep.of_wr W13).1
  have K19 : Keep h0 h13 [] := K11.wr W13 (Or.inr sz_b5)
  have N13 := Fr.snoc X13 N0 g_b5
  refine Goes.on (B := T13.setTop (mkF m 51 #[.val (.int (2 : Int32)), .val (.int c0), .val (.int c1), .val (.int c2), .val (.int c3)] [(.ref b5), (.ref b1), (.ref b1)])) (fun t k => st13 t k) ?_
  refine Goes.on (B := T13.setTop (mkF m 54 #[.val (.int (2 : Int32)), .val (.int c0), .val (.int c1), .val (.int c2), .val (.int c3)] [(.int c1), (.int (1 : Int32)), (.ref b5), (.ref b5), (.ref b1), (.ref b1)])) (fun _ k => XS.dup X13.here hx rfl (hb hby d2_51) rfl rfl (XS.iconst X13.here hx rfl (hb hby d2_52) (XS.iloadN X13.here hx rfl (hb hby d2_53) rfl  k))) ?_
  obtain ⟨cl20, Ar20, q20, S20, Nn20, H20, G20⟩ := id V13
  have hin20 : ¬ ((1 : Int32) < 0 ∨ cl20.slots.size ≤ ((1 : Int32)).toNatClampNeg) := inb_of S20 ⟨by decide, by decide⟩
  obtain ⟨T21, h21, X21, e21, W21, st21⟩ := stC X13 hx hZ e13 Ar20 (j := (1 : Int32)) hin20 (g := (mkF m 54 #[.val (.int (2 : Int32)), .val (.int c0), .val (.int c1), .val (.int c2), .val (.int c3)] [(.int c1), (.int (1 : Int32)), (.ref b5), (.ref b5), (.ref b1), (.ref b1)])) rfl rfl (hb hby d2_54)
  have V21 : Arv Z h21 b5 k5 .char (2 : Int32) [(.int (nar .char c0)), (.int (nar .char c1))] (.int (0 : Int32)) := Arv.set Ar20 q20 S20 Nn20 H20 G20 (fits_nar_char _) W21 1 rfl (Nat.le_of_ble_eq_true rfl)
  have f22 := f14.wr W21 g_b5
  have f23 := f15.wr W21
  have f24 := f16.other W21 (Or.inl ne_b1_b5)
  have f25 := f17.other W21 (Or.inl ne_b1_b5)
  have z26 : n0 ≤ h21.size := Nat.le_trans z18 (Keep.of_wr W21).1
  have K27 : Keep h0 h21 [] := K19.wr W21 (Or.inr sz_b5)
  have N21 := Fr.snoc X21 N13 g_b5
  refine Goes.on (B := T21.setTop (mkF m 55 #[.val (.int (2 : Int32)), .val (.int c0), .val (.int c1), .val (.int c2), .val (.int c3)] [(.ref b5), (.ref b1), (.ref b1)])) (fun t k => st21 t k) ?_
  have VC : Arv Z h21 b5 k5 .char (2 : Int32) [(.int c0), (.int c1)] (.int (0 : Int32)) := by
    have q := V21
    rw [own_narc r0, own_narc r1] at q
    exact q
  by_cases hall : (¬ (255 : Int32) < c0 ∧ ¬ (255 : Int32) < c1)
  · obtain ⟨v0, v1⟩ := hall
    have hp : ∀ q ∈ ([c0, c1] : List Int32), ¬ q < 0 ∧ ¬ (255 : Int32) < q := by
      intro q hq
      simp only [List.mem_cons, List.not_mem_nil, or_false] at hq
      rcases hq with rfl | rfl
      · exact ⟨r0.1, v0⟩
      · exact ⟨r1.1, v1⟩
    have hws : ∀ d ∈ StrChars.Road.words, d.before a0 Z = true := fun d hd => hw d ((by decide +kernel : ∀ d ∈ StrChars.Road.words, d ∈ tables_1) d hd)
    obtain ⟨_, _, ⟨T28, L28, k28, n28⟩, -, X28, ⟨Lc28, hQ28, l28, y28, z28⟩, st28⟩ := X21.specialBack hx (y := (⟨"java/lang/String", "<init>", "([C)V"⟩ : MethodName)) rfl hown (mvT hZ (hw _ (om 12 rfl))) (mvT hZ (hw _ (om 13 rfl))) (mvT hZ (hw _ (om 14 rfl))) (by decide) (StrChars.Road.backV (W := 1) hZ hws (kI := 4) (hw _ (om 9 rfl)) (cs := ([c0, c1] : List Int32)) (bs := (([c0, c1] : List Int32)).map (fun c => c.toInt8.toInt32)) (n := 2) g_b1 z26 f23 f24 f25 VC (SS.1.ext f22.2) SS.2.1 rfl rfl (by decide) (by decide) hp rfl (by decide) (by decide)) (g := (mkF m 55 #[.val (.int (2 : Int32)), .val (.int c0), .val (.int c1), .val (.int c2), .val (.int c3)] [(.ref b5), (.ref b1), (.ref b1)])) rfl (by rw [hml]; rfl) (Steps.refl _) (a := b1) (argsL := [(.ref b5)]) (rest := [(.ref b1)]) (lenOf pd_2___C_V rfl) rfl (by show 2 * 0 + _ ≤ _; exact Nat.le_of_eq rfl) (hb hby d2_55) (fun _ _ => ⟨rfl, e21, (by decide : 2 + 1 ≤ _), (by decide : 6 + 2 ≤ _)⟩)
    dsimp only [Pt.U, Pt.locs, Pt.cells, Pt.slots] at X28 l28 y28 z28 st28 hQ28
    subst l28 y28 z28
    obtain ⟨rfl, Nq28, Kq28, Eq28, Cq28, t28, kt28, -, -, -, Fq28, Aq28⟩ := hQ28
    obtain ⟨h28, eh28⟩ : ∃ h, T28.heap = h := ⟨_, rfl⟩
    rw [eh28] at Kq28 Eq28 Cq28 Fq28 Aq28
    have f29 := f22.keep Kq28 (allS g_b1 all0)
    have f30 := f23.keep Kq28
    have f31 := VC.keep Kq28 (ninS (Ne.symm ne_b1_b5) nin0)
    have z32 : n0 ≤ h28.size := Nat.le_trans z26 Kq28.1
    have K33 : Keep h0 h28 [] := K27.trans Kq28 (allS (Or.inr sz_b1) all0)
    have N28 := Fr.app N21 Nq28
    refine Goes.on (B := T28.setTop (mkF m 58 #[.val (.int (2 : Int32)), .val (.int c0), .val (.int c1), .val (.int c2), .val (.int c3)] [(.ref b1)])) (fun t k => st28.trans k) ?_
    obtain ⟨fs, hr, hrun, hended, hW, hsame⟩ := X28.leave (v := some (.ref b1)) (fun h => by rw [Bd.returns] at h; cases h)
    exact Goes.leaf (own_retR X28 hx Bd.returns rfl rfl (hb hby d2_58) hr) hrun hended ⟨_, _, rfl, by show Qk2 Z c0 c1 c2 c3 GA GB h0 n0 _ T28.heap _; rw [eh28]; exact ⟨b1, rfl, N28, K33, g_b1, Eq28, t28, kt28, Fq28, Or.inl ⟨Cq28, Aq28, hp⟩⟩, ⟨_, rfl⟩, hW, hsame.mono (by decide) (by decide)⟩
  · have hwd := hall
    obtain ⟨_, _, ⟨T34, L34, k34, n34⟩, -, X34, ⟨Lc34, hQ34, l34, y34, z34⟩, st34⟩ := X21.specialBack hx (y := (⟨"java/lang/String", "<init>", "([C)V"⟩ : MethodName)) rfl hown (mvT hZ (hw _ (om 12 rfl))) (mvT hZ (hw _ (om 13 rfl))) (mvT hZ (hw _ (om 14 rfl))) (by decide) (backOf (W := 1) (rmu2 l Z a0 hw [] b1 b5 k5 c0 c1 GA GB h21 n0 z26 SS f22 f23 f25 f24 g_b1 VC r0 r1 hwd) hZ (hw _ (om 14 rfl)) (hw _ (om 10 rfl)) (by decide) (by decide)) (g := (mkF m 55 #[.val (.int (2 : Int32)), .val (.int c0), .val (.int c1), .val (.int c2), .val (.int c3)] [(.ref b5), (.ref b1), (.ref b1)])) rfl (by rw [hml]; rfl) (Steps.refl _) (a := b1) (argsL := [(.ref b5)]) (rest := [(.ref b1)]) (lenOf pd_2___C_V rfl) rfl (by show 2 * 0 + _ ≤ _; exact Nat.le_of_eq rfl) (hb hby d2_55) (fun _ _ => ⟨rfl, e21, (by decide : 2 + 2 ≤ _), (by decide : 6 + 6 ≤ _)⟩)
    dsimp only [Pt.U, Pt.locs, Pt.cells, Pt.slots] at X34 l34 y34 z34 st34 hQ34
    subst l34 y34 z34
    obtain ⟨rfl, Nq34, Kq34, Eq34, Cq34, t34, kt34, gt34, Fq34, Aq34⟩ := hQ34
    obtain ⟨h34, eh34⟩ : ∃ h, T34.heap = h := ⟨_, rfl⟩
    rw [eh34] at Kq34 Eq34 Cq34 Fq34 Aq34
    have f35 := f22.keep Kq34 (allS g_b1 all0)
    have f36 := f23.keep Kq34
    have f37 := VC.keep Kq34 (ninS (Ne.symm ne_b1_b5) nin0)
    have z38 : n0 ≤ h34.size := Nat.le_trans z26 Kq34.1
    have K39 : Keep h0 h34 [] := K27.trans Kq34 (allS (Or.inr sz_b1) all0)
    have N34 := Fr.app N21 Nq34
    refine Goes.on (B := T34.setTop (mkF m 58 #[.val (.int (2 : Int32)), .val (.int c0), .val (.int c1), .val (.int c2), .val (.int c3)] [(.ref b1)])) (fun t k => st34.trans k) ?_
    obtain ⟨fs, hr, hrun, hended, hW, hsame⟩ := X34.leave (v := some (.ref b1)) (fun h => by rw [Bd.returns] at h; cases h)
    exact Goes.leaf (own_retR X34 hx Bd.returns rfl rfl (hb hby d2_58) hr) hrun hended ⟨_, _, rfl, by show Qk2 Z c0 c1 c2 c3 GA GB h0 n0 _ T34.heap _; rw [eh34]; exact ⟨b1, rfl, N34, K39, g_b1, Eq34, t34, _, Fq34, Or.inr ⟨Cq34, Aq34⟩⟩, ⟨_, rfl⟩, hW, hsame.mono (by decide) (by decide)⟩
theorem d2_59 : decode method_4_code 59 = .ok (.iload_n 0, 1) := by decide +kernel
theorem d2_60 : decode method_4_code 60 = .ok (.iconst 3, 1) := by decide +kernel
theorem d2_61 : decode method_4_code 61 = .ok (.if_icmp .ne 26, 3) := by decide +kernel
theorem d2_64 : decode method_4_code 64 = .ok (.new 7, 3) := by decide +kernel
theorem d2_67 : decode method_4_code 67 = .ok (.dup, 1) := by decide +kernel
theorem d2_68 : decode method_4_code 68 = .ok (.iconst 3, 1) := by decide +kernel
theorem d2_69 : decode method_4_code 69 = .ok (.newarray .char, 2) := by decide +kernel
theorem d2_71 : decode method_4_code 71 = .ok (.dup, 1) := by decide +kernel
theorem d2_72 : decode method_4_code 72 = .ok (.iconst 0, 1) := by decide +kernel
theorem d2_73 : decode method_4_code 73 = .ok (.iload_n 1, 1) := by decide +kernel
theorem d2_74 : decode method_4_code 74 = .ok (.castore, 1) := by decide +kernel
theorem d2_75 : decode method_4_code 75 = .ok (.dup, 1) := by decide +kernel
theorem d2_76 : decode method_4_code 76 = .ok (.iconst 1, 1) := by decide +kernel
theorem d2_77 : decode method_4_code 77 = .ok (.iload_n 2, 1) := by decide +kernel
theorem d2_78 : decode method_4_code 78 = .ok (.castore, 1) := by decide +kernel
theorem d2_79 : decode method_4_code 79 = .ok (.dup, 1) := by decide +kernel
theorem d2_80 : decode method_4_code 80 = .ok (.iconst 2, 1) := by decide +kernel
theorem d2_81 : decode method_4_code 81 = .ok (.iload_n 3, 1) := by decide +kernel
theorem d2_82 : decode method_4_code 82 = .ok (.castore, 1) := by decide +kernel
theorem d2_83 : decode method_4_code 83 = .ok (.invokespecial 9, 3) := by decide +kernel
theorem d2_86 : decode method_4_code 86 = .ok (.areturn, 1) := by decide +kernel
theorem ef_k3 (m : MethodId) (x0 : Int32) (x1 : Int32) (x2 : Int32) (x3 : Int32) (x4 : Int32) : entryFrame m #[(.int x0), (.int x1), (.int x2), (.int x3), (.int x4)] 5 = mkF m 0 #[.val (.int x0), .val (.int x1), .val (.int x2), .val (.int x3), .val (.int x4)] [] := by first | (simp [entryFrame, mkF, argsToLocals, Value.category]; done) | rfl
def Qk3 (Z : State) (c0 : Int32) (c1 : Int32) (c2 : Int32) (c3 : Int32) (GA : Int32) (GB : Value) (h0 : Heap) (n0 : Nat) (v : Option Value) (h : Heap) (L : List Loc) : Prop := ∃ x, v = some (.ref x) ∧ Fr n0 L ∧ Keep h0 h [] ∧ n0 ≤ x ∧ own_S3 Z h x c0 c1 c2
set_option maxRecDepth 65536 in
set_option maxHeartbeats 40000000 in
theorem rmk3 (l : Launch) (Z : State) (a0 : Array Value) (hw : ∀ d ∈ tables_1, d.before a0 Z = true) (ws : List Jvm.Cond) (c0 : Int32) (c1 : Int32) (c2 : Int32) (c3 : Int32) (GA : Int32) (GB : Value) (h0 : Heap) (n0 : Nat) (Z0 : n0 ≤ h0.size) (SS : own_St Z GA GB) (X00 : Old Z n0 h0) (r0 : own_rg c0) (r1 : own_rg c1) (r2 : own_rg c2) (r3 : own_rg c3) :
    MetFree l (⟨"com/example/heirloom_archive/heirloomarchive/model/TextIsWhiteSpacePinLaw", "make", "(ICCCC)Ljava/lang/String;"⟩ : MethodName) (head1 (Jvm.Cond.code (⟨"com/example/heirloom_archive/heirloomarchive/model/TextIsWhiteSpacePinLaw", "make", "(ICCCC)Ljava/lang/String;"⟩ : MethodName) method_4_code 5 (some (.object "java/lang/String")) :: ws) ({ frames := 6, cells := 4, slots := 16, locals := 100 } : Room)) (fun aa U => aa = #[(.int (3 : Int32)), (.int c0), (.int c1), (.int c2), (.int c3)] ∧ Z.Warmed39 U.vm ∧ U.heap = h0) (fun _ _ _ _ _ => True) (fun _ U oo U' => ∃ vv LL, oo = .returned vv ∧ Qk3 Z c0 c1 c2 c3 GA GB h0 n0 vv U'.heap LL ∧ FrameEnd U oo U' LL ({ frames := 6, cells := 4, slots := 16, locals := 100 } : Room).cells ({ frames := 6, cells := 4, slots := 16, locals := 100 } : Room).slots) := by
  refine MetFree.of_bodySF (plainFor_of_name pn_2) hisR ?_
  intro p e s m args below meth c s₁ Bd hml0 hP hK
  obtain ⟨rfl, hZ, hh⟩ := hP
  have hx := Bd.exec
  have hby := Bd.bytes
  have hml : c.maxLocals = 5 := hml0
  have hown : s.vm.findClass "com/example/heirloom_archive/heirloomarchive/model/TextIsWhiteSpacePinLaw" = some m.cls := findClass_of_methodNamed Bd.named
  have hnm := (name_of_methodNamed Bd.named Bd.method).1
  have X0 : Stand p l e ({ frames := 6, cells := 4, slots := 16, locals := 100 } : Room) s m #[(.int (3 : Int32)), (.int c0), (.int c1), (.int c2), (.int c3)] below meth c s₁ [] 0 0 := Stand.of_body Bd
  have e0 : s₁.heap = h0 := by rw [← hh, Bd.state]; rfl
  have N0 := Fr.nil n0
  show Goes p e below _ (s₁.setTop (entryFrame m #[(.int (3 : Int32)), (.int c0), (.int c1), (.int c2), (.int c3)] 5))
  refine Goes.on (B := s₁.setTop (mkF m 0 #[.val (.int (3 : Int32)), .val (.int c0), .val (.int c1), .val (.int c2), .val (.int c3)] [])) (fun t k => castTop (ef_k3 m (3 : Int32) c0 c1 c2 c3) k) ?_
  refine Goes.on (B := s₁.setTop (mkF m 59 #[.val (.int (3 : Int32)), .val (.int c0), .val (.int c1), .val (.int c2), .val (.int c3)] [])) (fun _ k => XS.iloadN X0.here hx rfl (hb hby d2_0) rfl  (XS.ifYes X0.here hx rfl (pc0 := 1) (pc' := 15) rfl (hb hby d2_1) rfl ((if0 _ _).trans (feq (by decide)).2) (by decide) (by decide) (XS.iloadN X0.here hx rfl (hb hby d2_15) rfl  (XS.iconst X0.here hx rfl (hb hby d2_16) (XS.icmpYes X0.here hx rfl (pc0 := 17) (pc' := 35) rfl (hb hby d2_17) rfl (feq (by decide)).2 (by decide) (by decide) (XS.iloadN X0.here hx rfl (hb hby d2_35) rfl  (XS.iconst X0.here hx rfl (hb hby d2_36) (XS.icmpYes X0.here hx rfl (pc0 := 37) (pc' := 59) rfl (hb hby d2_37) rfl (feq (by decide)).2 (by decide) (by decide) k)))))))) ?_
  refine Goes.on (B := s₁.setTop (mkF m 64 #[.val (.int (3 : Int32)), .val (.int c0), .val (.int c1), .val (.int c2), .val (.int c3)] [])) (fun _ k => XS.iloadN X0.here hx rfl (hb hby d2_59) rfl  (XS.iconst X0.here hx rfl (hb hby d2_60) (XS.icmpNo X0.here hx rfl (hb hby d2_61) rfl (teq (by decide)).2 k))) ?_
  obtain ⟨T1, h1, X1, e1, E1, A1, D1, -, st1⟩ := newO X0 hx hZ hown (hw _ (om 8 rfl)) (hw _ (om 9 rfl)) (hw _ (om 10 rfl)) e0 (g := (mkF m 64 #[.val (.int (3 : Int32)), .val (.int c0), .val (.int c1), .val (.int c2), .val (.int c3)] [])) rfl (hb hby d2_64) (by decide) (by decide)
  obtain ⟨b1, g1⟩ : ∃ z, z = h0.size := ⟨_, rfl⟩
  rw [← g1] at A1 D1 st1
  have f2 := X00.ext E1
  have z3 : n0 ≤ h1.size := Nat.le_trans Z0 E1.1
  have K4 : Keep h0 h1 [] := (Keep.refl h0 []).ext E1
  have g_b1 : n0 ≤ b1 := Nat.le_trans Z0 (Nat.le_of_eq g1.symm)
  have sz_b1 : h0.size ≤ b1 := Nat.le_trans (Keep.refl h0 []).1 (Nat.le_of_eq g1.symm)
  have F1_value : Fld Z h1 b1 "java/lang/String" "value" "[B" .null := D1 (Or.inr (hw _ (om 24 rfl))) (ty := (.array .byte)) (by decide)
  have F1_coder : Fld Z h1 b1 "java/lang/String" "coder" "B" (.int (0 : Int32)) := D1 (Or.inr (hw _ (om 25 rfl))) (ty := .byte) (by decide)
  refine Goes.on (B := T1.setTop (mkF m 67 #[.val (.int (3 : Int32)), .val (.int c0), .val (.int c1), .val (.int c2), .val (.int c3)] [(.ref b1)])) (fun t k => st1 t k) ?_
  refine Goes.on (B := T1.setTop (mkF m 69 #[.val (.int (3 : Int32)), .val (.int c0), .val (.int c1), .val (.int c2), .val (.int c3)] [(.int (3 : Int32)), (.ref b1), (.ref b1)])) (fun _ k => XS.dup X1.here hx rfl (hb hby d2_67) rfl rfl (XS.iconst X1.here hx rfl (hb hby d2_68) k)) ?_
  obtain ⟨T5, h5, k5, X5, e5, E5, A5, st5⟩ := newP X1 hx hZ (hw _ (om 11 rfl)) e1 (g := (mkF m 69 #[.val (.int (3 : Int32)), .val (.int c0), .val (.int c1), .val (.int c2), .val (.int c3)] [(.int (3 : Int32)), (.ref b1), (.ref b1)])) rfl (hb hby d2_69) rfl (by decide) (cap := 3) (by decide) (by decide) (by decide) (by decide)
  obtain ⟨b5, g5⟩ : ∃ z, z = h1.size := ⟨_, rfl⟩
  rw [← g5] at A5 st5
  have ne_b1_b5 : b1 ≠ b5 := Nat.ne_of_lt (Nat.lt_of_lt_of_le A1.lt (Nat.le_of_eq g5.symm))
  have f6 := f2.ext E5
  have f7 := A1.ext E5
  have f8 := F1_value.ext E5
  have f9 := F1_coder.ext E5
  have z10 : n0 ≤ h5.size := Nat.le_trans z3 E5.1
  have K11 : Keep h0 h5 [] := K4.ext E5
  have g_b5 : n0 ≤ b5 := Nat.le_trans z3 (Nat.le_of_eq g5.symm)
  have sz_b5 : h0.size ≤ b5 := Nat.le_trans K4.1 (Nat.le_of_eq g5.symm)
  have V5 : Arv Z h5 b5 k5 .char (3 : Int32) [(.int (0 : Int32)), (.int (0 : Int32)), (.int (0 : Int32))] (.int (0 : Int32)) := (Arv.new A5 (by decide)).pad (pad_rep [] (.int (0 : Int32)) 3)
  refine Goes.on (B := T5.setTop (mkF m 71 #[.val (.int (3 : Int32)), .val (.int c0), .val (.int c1), .val (.int c2), .val (.int c3)] [(.ref b5), (.ref b1), (.ref b1)])) (fun t k => st5 t k) ?_
  refine Goes.on (B := T5.setTop (mkF m 74 #[.val (.int (3 : Int32)), .val (.int c0), .val (.int c1), .val (.int c2), .val (.int c3)] [(.int c0), (.int (0 : Int32)), (.ref b5), (.ref b5), (.ref b1), (.ref b1)])) (fun _ k => XS.dup X5.here hx rfl (hb hby d2_71) rfl rfl (XS.iconst X5.here hx rfl (hb hby d2_72) (XS.iloadN X5.here hx rfl (hb hby d2_73) rfl  k))) ?_
  obtain ⟨cl12, Ar12, q12, S12, Nn12, H12, G12⟩ := id V5
  have hin12 : ¬ ((0 : Int32) < 0 ∨ cl12.slots.size ≤ ((0 : Int32)).toNatClampNeg) := inb_of S12 ⟨by decide, by decide⟩
  obtain ⟨T13, h13, X13, e13, W13, st13⟩ := stC X5 hx hZ e5 Ar12 (j := (0 : Int32)) hin12 (g := (mkF m 74 #[.val (.int (3 : Int32)), .val (.int c0), .val (.int c1), .val (.int c2), .val (.int c3)] [(.int c0), (.int (0 : Int32)), (.ref b5), (.ref b5), (.ref b1), (.ref b1)])) rfl rfl (hb hby d2_74)
  have V13 : Arv Z h13 b5 k5 .char (3 : Int32) [(.int (nar .char c0)), (.int (0 : Int32)), (.int (0 : Int32))] (.int (0 : Int32)) := Arv.set Ar12 q12 S12 Nn12 H12 G12 (fits_nar_char _) W13 0 rfl (Nat.le_of_ble_eq_true rfl)
  have f14 := f6.wr W13 g_b5
  have f15 := f7.wr W13
  have f16 := f8.other W13 (Or.inl ne_b1_b5)
  have f17 := f9.other W13 (Or.inl ne_b1_b5)
  have z18 : n0 ≤ h13.size := Nat.le_trans z10 (Keep.of_wr W13).1
  have K19 : Keep h0 h13 [] := K11.wr W13 (Or.inr sz_b5)
  have N13 := Fr.snoc X13 N0 g_b5
  refine Goes.on (B := T13.setTop (mkF m 75 #[.val (.int (3 : Int32)), .val (.int c0), .val (.int c1), .val (.int c2), .val (.int c3)] [(.ref b5), (.ref b1), (.ref b1)])) (fun t k => st13 t k) ?_
  refine Goes.on (B := T13.setTop (mkF m 78 #[.val (.int (3 : Int32)), .val (.int c0), .val (.int c1), .val (.int c2), .val (.int c3)] [(.int c1), (.int (1 : Int32)), (.ref b5), (.ref b5), (.ref b1), (.ref b1)])) (fun _ k => XS.dup X13.here hx rfl (hb hby d2_75) rfl rfl (XS.iconst X13.here hx rfl (hb hby d2_76) (XS.iloadN X13.here hx rfl (hb hby d2_77) rfl  k))) ?_
  obtain ⟨cl20, Ar20, q20, S20, Nn20, H20, G20⟩ := id V13
  have hin20 : ¬ ((1 : Int32) < 0 ∨ cl20.slots.size ≤ ((1 : Int32)).toNatClampNeg) := inb_of S20 ⟨by decide, by decide⟩
  obtain ⟨T21, h21, X21, e21, W21, st21⟩ := stC X13 hx hZ e13 Ar20 (j := (1 : Int32)) hin20 (g := (mkF m 78 #[.val (.int (3 : Int32)), .val (.int c0), .val (.int c1), .val (.int c2), .val (.int c3)] [(.int c1), (.int (1 : Int32)), (.ref b5), (.ref b5), (.ref b1), (.ref b1)])) rfl rfl (hb hby d2_78)
  have V21 : Arv Z h21 b5 k5 .char (3 : Int32) [(.int (nar .char c0)), (.int (nar .char c1)), (.int (0 : Int32))] (.int (0 : Int32)) := Arv.set Ar20 q20 S20 Nn20 H20 G20 (fits_nar_char _) W21 1 rfl (Nat.le_of_ble_eq_true rfl)
  have f22 := f14.wr W21 g_b5
  have f23 := f15.wr W21
  have f24 := f16.other W21 (Or.inl ne_b1_b5)
  have f25 := f17.other W21 (Or.inl ne_b1_b5)
  have z26 : n0 ≤ h21.size := Nat.le_trans z18 (Keep.of_wr W21).1
  have K27 : Keep h0 h21 [] := K19.wr W21 (Or.inr sz_b5)
  have N21 := Fr.snoc X21 N13 g_b5
  refine Goes.on (B := T21.setTop (mkF m 79 #[.val (.int (3 : Int32)), .val (.int c0), .val (.int c1), .val (.int c2), .val (.int c3)] [(.ref b5), (.ref b1), (.ref b1)])) (fun t k => st21 t k) ?_
  refine Goes.on (B := T21.setTop (mkF m 82 #[.val (.int (3 : Int32)), .val (.int c0), .val (.int c1), .val (.int c2), .val (.int c3)] [(.int c2), (.int (2 : Int32)), (.ref b5), (.ref b5), (.ref b1), (.ref b1)])) (fun _ k => XS.dup X21.here hx rfl (hb hby d2_79) rfl rfl (XS.iconst X21.here hx rfl (hb hby d2_80) (XS.iloadN X21.here hx rfl (hb hby d2_81) rfl  k))) ?_
  obtain ⟨cl28, Ar28, q28, S28, Nn28, H28, G28⟩ := id V21
  have hin28 : ¬ ((2 : Int32) < 0 ∨ cl28.slots.size ≤ ((2 : Int32)).toNatClampNeg) := inb_of S28 ⟨by decide, by decide⟩
  obtain ⟨T29, h29, X29, e29, W29, st29⟩ := stC X21 hx hZ e21 Ar28 (j := (2 : Int32)) hin28 (g := (mkF m 82 #[.val (.int (3 : Int32)), .val (.int c0), .val (.int c1), .val (.int c2), .val (.int c3)] [(.int c2), (.int (2 : Int32)), (.ref b5), (.ref b5), (.ref b1), (.ref b1)])) rfl rfl (hb hby d2_82)
  have V29 : Arv Z h29 b5 k5 .char (3 : Int32) [(.int (nar .char c0)), (.int (nar .char c1)), (.int (nar .char c2))] (.int (0 : Int32)) := Arv.set Ar28 q28 S28 Nn28 H28 G28 (fits_nar_char _) W29 2 rfl (Nat.le_of_ble_eq_true rfl)
  have f30 := f22.wr W29 g_b5
  have f31 := f23.wr W29
  have f32 := f24.other W29 (Or.inl ne_b1_b5)
  have f33 := f25.other W29 (Or.inl ne_b1_b5)
  have z34 : n0 ≤ h29.size := Nat.le_trans z26 (Keep.of_wr W29).1
  have K35 : Keep h0 h29 [] := K27.wr W29 (Or.inr sz_b5)
  have N29 := Fr.snoc X29 N21 g_b5
  refine Goes.on (B := T29.setTop (mkF m 83 #[.val (.int (3 : Int32)), .val (.int c0), .val (.int c1), .val (.int c2), .val (.int c3)] [(.ref b5), (.ref b1), (.ref b1)])) (fun t k => st29 t k) ?_
  have VC : Arv Z h29 b5 k5 .char (3 : Int32) [(.int c0), (.int c1), (.int c2)] (.int (0 : Int32)) := by
    have q := V29
    rw [own_narc r0, own_narc r1, own_narc r2] at q
    exact q
  by_cases hall : (¬ (255 : Int32) < c0 ∧ ¬ (255 : Int32) < c1 ∧ ¬ (255 : Int32) < c2)
  · obtain ⟨v0, v1, v2⟩ := hall
    have hp : ∀ q ∈ ([c0, c1, c2] : List Int32), ¬ q < 0 ∧ ¬ (255 : Int32) < q := by
      intro q hq
      simp only [List.mem_cons, List.not_mem_nil, or_false] at hq
      rcases hq with rfl | rfl | rfl
      · exact ⟨r0.1, v0⟩
      · exact ⟨r1.1, v1⟩
      · exact ⟨r2.1, v2⟩
    have hws : ∀ d ∈ StrChars.Road.words, d.before a0 Z = true := fun d hd => hw d ((by decide +kernel : ∀ d ∈ StrChars.Road.words, d ∈ tables_1) d hd)
    obtain ⟨_, _, ⟨T36, L36, k36, n36⟩, -, X36, ⟨Lc36, hQ36, l36, y36, z36⟩, st36⟩ := X29.specialBack hx (y := (⟨"java/lang/String", "<init>", "([C)V"⟩ : MethodName)) rfl hown (mvT hZ (hw _ (om 12 rfl))) (mvT hZ (hw _ (om 13 rfl))) (mvT hZ (hw _ (om 14 rfl))) (by decide) (StrChars.Road.backV (W := 1) hZ hws (kI := 4) (hw _ (om 9 rfl)) (cs := ([c0, c1, c2] : List Int32)) (bs := (([c0, c1, c2] : List Int32)).map (fun c => c.toInt8.toInt32)) (n := 3) g_b1 z34 f31 f32 f33 VC (SS.1.ext f30.2) SS.2.1 rfl rfl (by decide) (by decide) hp rfl (by decide) (by decide)) (g := (mkF m 83 #[.val (.int (3 : Int32)), .val (.int c0), .val (.int c1), .val (.int c2), .val (.int c3)] [(.ref b5), (.ref b1), (.ref b1)])) rfl (by rw [hml]; rfl) (Steps.refl _) (a := b1) (argsL := [(.ref b5)]) (rest := [(.ref b1)]) (lenOf pd_2___C_V rfl) rfl (by show 2 * 0 + _ ≤ _; exact Nat.le_of_eq rfl) (hb hby d2_83) (fun _ _ => ⟨rfl, e29, (by decide : 2 + 1 ≤ _), (by decide : 7 + 3 ≤ _)⟩)
    dsimp only [Pt.U, Pt.locs, Pt.cells, Pt.slots] at X36 l36 y36 z36 st36 hQ36
    subst l36 y36 z36
    obtain ⟨rfl, Nq36, Kq36, Eq36, Cq36, t36, kt36, -, -, -, Fq36, Aq36⟩ := hQ36
    obtain ⟨h36, eh36⟩ : ∃ h, T36.heap = h := ⟨_, rfl⟩
    rw [eh36] at Kq36 Eq36 Cq36 Fq36 Aq36
    have f37 := f30.keep Kq36 (allS g_b1 all0)
    have f38 := f31.keep Kq36
    have f39 := VC.keep Kq36 (ninS (Ne.symm ne_b1_b5) nin0)
    have z40 : n0 ≤ h36.size := Nat.le_trans z34 Kq36.1
    have K41 : Keep h0 h36 [] := K35.trans Kq36 (allS (Or.inr sz_b1) all0)
    have N36 := Fr.app N29 Nq36
    refine Goes.on (B := T36.setTop (mkF m 86 #[.val (.int (3 : Int32)), .val (.int c0), .val (.int c1), .val (.int c2), .val (.int c3)] [(.ref b1)])) (fun t k => st36.trans k) ?_
    obtain ⟨fs, hr, hrun, hended, hW, hsame⟩ := X36.leave (v := some (.ref b1)) (fun h => by rw [Bd.returns] at h; cases h)
    exact Goes.leaf (own_retR X36 hx Bd.returns rfl rfl (hb hby d2_86) hr) hrun hended ⟨_, _, rfl, by show Qk3 Z c0 c1 c2 c3 GA GB h0 n0 _ T36.heap _; rw [eh36]; exact ⟨b1, rfl, N36, K41, g_b1, Eq36, t36, kt36, Fq36, Or.inl ⟨Cq36, Aq36, hp⟩⟩, ⟨_, rfl⟩, hW, hsame.mono (by decide) (by decide)⟩
  · have hwd := hall
    obtain ⟨_, _, ⟨T42, L42, k42, n42⟩, -, X42, ⟨Lc42, hQ42, l42, y42, z42⟩, st42⟩ := X29.specialBack hx (y := (⟨"java/lang/String", "<init>", "([C)V"⟩ : MethodName)) rfl hown (mvT hZ (hw _ (om 12 rfl))) (mvT hZ (hw _ (om 13 rfl))) (mvT hZ (hw _ (om 14 rfl))) (by decide) (backOf (W := 1) (rmu3 l Z a0 hw [] b1 b5 k5 c0 c1 c2 GA GB h29 n0 z34 SS f30 f31 f33 f32 g_b1 VC r0 r1 r2 hwd) hZ (hw _ (om 14 rfl)) (hw _ (om 10 rfl)) (by decide) (by decide)) (g := (mkF m 83 #[.val (.int (3 : Int32)), .val (.int c0), .val (.int c1), .val (.int c2), .val (.int c3)] [(.ref b5), (.ref b1), (.ref b1)])) rfl (by rw [hml]; rfl) (Steps.refl _) (a := b1) (argsL := [(.ref b5)]) (rest := [(.ref b1)]) (lenOf pd_2___C_V rfl) rfl (by show 2 * 0 + _ ≤ _; exact Nat.le_of_eq rfl) (hb hby d2_83) (fun _ _ => ⟨rfl, e29, (by decide : 2 + 2 ≤ _), (by decide : 7 + 9 ≤ _)⟩)
    dsimp only [Pt.U, Pt.locs, Pt.cells, Pt.slots] at X42 l42 y42 z42 st42 hQ42
    subst l42 y42 z42
    obtain ⟨rfl, Nq42, Kq42, Eq42, Cq42, t42, kt42, gt42, Fq42, Aq42⟩ := hQ42
    obtain ⟨h42, eh42⟩ : ∃ h, T42.heap = h := ⟨_, rfl⟩
    rw [eh42] at Kq42 Eq42 Cq42 Fq42 Aq42
    have f43 := f30.keep Kq42 (allS g_b1 all0)
    have f44 := f31.keep Kq42
    have f45 := VC.keep Kq42 (ninS (Ne.symm ne_b1_b5) nin0)
    have z46 : n0 ≤ h42.size := Nat.le_trans z34 Kq42.1
    have K47 : Keep h0 h42 [] := K35.trans Kq42 (allS (Or.inr sz_b1) all0)
    have N42 := Fr.app N29 Nq42
    refine Goes.on (B := T42.setTop (mkF m 86 #[.val (.int (3 : Int32)), .val (.int c0), .val (.int c1), .val (.int c2), .val (.int c3)] [(.ref b1)])) (fun t k => st42.trans k) ?_
    obtain ⟨fs, hr, hrun, hended, hW, hsame⟩ := X42.leave (v := some (.ref b1)) (fun h => by rw [Bd.returns] at h; cases h)
    exact Goes.leaf (own_retR X42 hx Bd.returns rfl rfl (hb hby d2_86) hr) hrun hended ⟨_, _, rfl, by show Qk3 Z c0 c1 c2 c3 GA GB h0 n0 _ T42.heap _; rw [eh42]; exact ⟨b1, rfl, N42, K47, g_b1, Eq42, t42, _, Fq42, Or.inr ⟨Cq42, Aq42⟩⟩, ⟨_, rfl⟩, hW, hsame.mono (by decide) (by decide)⟩
theorem d2_87 : decode method_4_code 87 = .ok (.new 7, 3) := by decide +kernel
theorem d2_90 : decode method_4_code 90 = .ok (.dup, 1) := by decide +kernel
theorem d2_91 : decode method_4_code 91 = .ok (.iconst 4, 1) := by decide +kernel
theorem d2_92 : decode method_4_code 92 = .ok (.newarray .char, 2) := by decide +kernel
theorem d2_94 : decode method_4_code 94 = .ok (.dup, 1) := by decide +kernel
theorem d2_95 : decode method_4_code 95 = .ok (.iconst 0, 1) := by decide +kernel
theorem d2_96 : decode method_4_code 96 = .ok (.iload_n 1, 1) := by decide +kernel
theorem d2_97 : decode method_4_code 97 = .ok (.castore, 1) := by decide +kernel
theorem d2_98 : decode method_4_code 98 = .ok (.dup, 1) := by decide +kernel
theorem d2_99 : decode method_4_code 99 = .ok (.iconst 1, 1) := by decide +kernel
theorem d2_100 : decode method_4_code 100 = .ok (.iload_n 2, 1) := by decide +kernel
theorem d2_101 : decode method_4_code 101 = .ok (.castore, 1) := by decide +kernel
theorem d2_102 : decode method_4_code 102 = .ok (.dup, 1) := by decide +kernel
theorem d2_103 : decode method_4_code 103 = .ok (.iconst 2, 1) := by decide +kernel
theorem d2_104 : decode method_4_code 104 = .ok (.iload_n 3, 1) := by decide +kernel
theorem d2_105 : decode method_4_code 105 = .ok (.castore, 1) := by decide +kernel
theorem d2_106 : decode method_4_code 106 = .ok (.dup, 1) := by decide +kernel
theorem d2_107 : decode method_4_code 107 = .ok (.iconst 3, 1) := by decide +kernel
theorem d2_108 : decode method_4_code 108 = .ok (.iload 4, 2) := by decide +kernel
theorem d2_110 : decode method_4_code 110 = .ok (.castore, 1) := by decide +kernel
theorem d2_111 : decode method_4_code 111 = .ok (.invokespecial 9, 3) := by decide +kernel
theorem d2_114 : decode method_4_code 114 = .ok (.areturn, 1) := by decide +kernel
theorem ef_k4 (m : MethodId) (x0 : Int32) (x1 : Int32) (x2 : Int32) (x3 : Int32) (x4 : Int32) : entryFrame m #[(.int x0), (.int x1), (.int x2), (.int x3), (.int x4)] 5 = mkF m 0 #[.val (.int x0), .val (.int x1), .val (.int x2), .val (.int x3), .val (.int x4)] [] := by first | (simp [entryFrame, mkF, argsToLocals, Value.category]; done) | rfl
def Qk4 (Z : State) (c0 : Int32) (c1 : Int32) (c2 : Int32) (c3 : Int32) (GA : Int32) (GB : Value) (h0 : Heap) (n0 : Nat) (v : Option Value) (h : Heap) (L : List Loc) : Prop := ∃ x, v = some (.ref x) ∧ Fr n0 L ∧ Keep h0 h [] ∧ n0 ≤ x ∧ own_S4 Z h x c0 c1 c2 c3
set_option maxRecDepth 65536 in
set_option maxHeartbeats 40000000 in
theorem rmk4 (l : Launch) (Z : State) (a0 : Array Value) (hw : ∀ d ∈ tables_1, d.before a0 Z = true) (ws : List Jvm.Cond) (c0 : Int32) (c1 : Int32) (c2 : Int32) (c3 : Int32) (GA : Int32) (GB : Value) (h0 : Heap) (n0 : Nat) (Z0 : n0 ≤ h0.size) (SS : own_St Z GA GB) (X00 : Old Z n0 h0) (r0 : own_rg c0) (r1 : own_rg c1) (r2 : own_rg c2) (r3 : own_rg c3) :
    MetFree l (⟨"com/example/heirloom_archive/heirloomarchive/model/TextIsWhiteSpacePinLaw", "make", "(ICCCC)Ljava/lang/String;"⟩ : MethodName) (head1 (Jvm.Cond.code (⟨"com/example/heirloom_archive/heirloomarchive/model/TextIsWhiteSpacePinLaw", "make", "(ICCCC)Ljava/lang/String;"⟩ : MethodName) method_4_code 5 (some (.object "java/lang/String")) :: ws) ({ frames := 6, cells := 4, slots := 20, locals := 100 } : Room)) (fun aa U => aa = #[(.int (4 : Int32)), (.int c0), (.int c1), (.int c2), (.int c3)] ∧ Z.Warmed39 U.vm ∧ U.heap = h0) (fun _ _ _ _ _ => True) (fun _ U oo U' => ∃ vv LL, oo = .returned vv ∧ Qk4 Z c0 c1 c2 c3 GA GB h0 n0 vv U'.heap LL ∧ FrameEnd U oo U' LL ({ frames := 6, cells := 4, slots := 20, locals := 100 } : Room).cells ({ frames := 6, cells := 4, slots := 20, locals := 100 } : Room).slots) := by
  refine MetFree.of_bodySF (plainFor_of_name pn_2) hisR ?_
  intro p e s m args below meth c s₁ Bd hml0 hP hK
  obtain ⟨rfl, hZ, hh⟩ := hP
  have hx := Bd.exec
  have hby := Bd.bytes
  have hml : c.maxLocals = 5 := hml0
  have hown : s.vm.findClass "com/example/heirloom_archive/heirloomarchive/model/TextIsWhiteSpacePinLaw" = some m.cls := findClass_of_methodNamed Bd.named
  have hnm := (name_of_methodNamed Bd.named Bd.method).1
  have X0 : Stand p l e ({ frames := 6, cells := 4, slots := 20, locals := 100 } : Room) s m #[(.int (4 : Int32)), (.int c0), (.int c1), (.int c2), (.int c3)] below meth c s₁ [] 0 0 := Stand.of_body Bd
  have e0 : s₁.heap = h0 := by rw [← hh, Bd.state]; rfl
  have N0 := Fr.nil n0
  show Goes p e below _ (s₁.setTop (entryFrame m #[(.int (4 : Int32)), (.int c0), (.int c1), (.int c2), (.int c3)] 5))
  refine Goes.on (B := s₁.setTop (mkF m 0 #[.val (.int (4 : Int32)), .val (.int c0), .val (.int c1), .val (.int c2), .val (.int c3)] [])) (fun t k => castTop (ef_k4 m (4 : Int32) c0 c1 c2 c3) k) ?_
  refine Goes.on (B := s₁.setTop (mkF m 59 #[.val (.int (4 : Int32)), .val (.int c0), .val (.int c1), .val (.int c2), .val (.int c3)] [])) (fun _ k => XS.iloadN X0.here hx rfl (hb hby d2_0) rfl  (XS.ifYes X0.here hx rfl (pc0 := 1) (pc' := 15) rfl (hb hby d2_1) rfl ((if0 _ _).trans (feq (by decide)).2) (by decide) (by decide) (XS.iloadN X0.here hx rfl (hb hby d2_15) rfl  (XS.iconst X0.here hx rfl (hb hby d2_16) (XS.icmpYes X0.here hx rfl (pc0 := 17) (pc' := 35) rfl (hb hby d2_17) rfl (feq (by decide)).2 (by decide) (by decide) (XS.iloadN X0.here hx rfl (hb hby d2_35) rfl  (XS.iconst X0.here hx rfl (hb hby d2_36) (XS.icmpYes X0.here hx rfl (pc0 := 37) (pc' := 59) rfl (hb hby d2_37) rfl (feq (by decide)).2 (by decide) (by decide) k)))))))) ?_
  refine Goes.on (B := s₁.setTop (mkF m 87 #[.val (.int (4 : Int32)), .val (.int c0), .val (.int c1), .val (.int c2), .val (.int c3)] [])) (fun _ k => XS.iloadN X0.here hx rfl (hb hby d2_59) rfl  (XS.iconst X0.here hx rfl (hb hby d2_60) (XS.icmpYes X0.here hx rfl (pc0 := 61) (pc' := 87) rfl (hb hby d2_61) rfl (feq (by decide)).2 (by decide) (by decide) k))) ?_
  obtain ⟨T1, h1, X1, e1, E1, A1, D1, -, st1⟩ := newO X0 hx hZ hown (hw _ (om 8 rfl)) (hw _ (om 9 rfl)) (hw _ (om 10 rfl)) e0 (g := (mkF m 87 #[.val (.int (4 : Int32)), .val (.int c0), .val (.int c1), .val (.int c2), .val (.int c3)] [])) rfl (hb hby d2_87) (by decide) (by decide)
  obtain ⟨b1, g1⟩ : ∃ z, z = h0.size := ⟨_, rfl⟩
  rw [← g1] at A1 D1 st1
  have f2 := X00.ext E1
  have z3 : n0 ≤ h1.size := Nat.le_trans Z0 E1.1
  have K4 : Keep h0 h1 [] := (Keep.refl h0 []).ext E1
  have g_b1 : n0 ≤ b1 := Nat.le_trans Z0 (Nat.le_of_eq g1.symm)
  have sz_b1 : h0.size ≤ b1 := Nat.le_trans (Keep.refl h0 []).1 (Nat.le_of_eq g1.symm)
  have F1_value : Fld Z h1 b1 "java/lang/String" "value" "[B" .null := D1 (Or.inr (hw _ (om 24 rfl))) (ty := (.array .byte)) (by decide)
  have F1_coder : Fld Z h1 b1 "java/lang/String" "coder" "B" (.int (0 : Int32)) := D1 (Or.inr (hw _ (om 25 rfl))) (ty := .byte) (by decide)
  refine Goes.on (B := T1.setTop (mkF m 90 #[.val (.int (4 : Int32)), .val (.int c0), .val (.int c1), .val (.int c2), .val (.int c3)] [(.ref b1)])) (fun t k => st1 t k) ?_
  refine Goes.on (B := T1.setTop (mkF m 92 #[.val (.int (4 : Int32)), .val (.int c0), .val (.int c1), .val (.int c2), .val (.int c3)] [(.int (4 : Int32)), (.ref b1), (.ref b1)])) (fun _ k => XS.dup X1.here hx rfl (hb hby d2_90) rfl rfl (XS.iconst X1.here hx rfl (hb hby d2_91) k)) ?_
  obtain ⟨T5, h5, k5, X5, e5, E5, A5, st5⟩ := newP X1 hx hZ (hw _ (om 11 rfl)) e1 (g := (mkF m 92 #[.val (.int (4 : Int32)), .val (.int c0), .val (.int c1), .val (.int c2), .val (.int c3)] [(.int (4 : Int32)), (.ref b1), (.ref b1)])) rfl (hb hby d2_92) rfl (by decide) (cap := 4) (by decide) (by decide) (by decide) (by decide)
  obtain ⟨b5, g5⟩ : ∃ z, z = h1.size := ⟨_, rfl⟩
  rw [← g5] at A5 st5
  have ne_b1_b5 : b1 ≠ b5 := Nat.ne_of_lt (Nat.lt_of_lt_of_le A1.lt (Nat.le_of_eq g5.symm))
  have f6 := f2.ext E5
  have f7 := A1.ext E5
  have f8 := F1_value.ext E5
  have f9 := F1_coder.ext E5
  have z10 : n0 ≤ h5.size := Nat.le_trans z3 E5.1
  have K11 : Keep h0 h5 [] := K4.ext E5
  have g_b5 : n0 ≤ b5 := Nat.le_trans z3 (Nat.le_of_eq g5.symm)
  have sz_b5 : h0.size ≤ b5 := Nat.le_trans K4.1 (Nat.le_of_eq g5.symm)
  have V5 : Arv Z h5 b5 k5 .char (4 : Int32) [(.int (0 : Int32)), (.int (0 : Int32)), (.int (0 : Int32)), (.int (0 : Int32))] (.int (0 : Int32)) := (Arv.new A5 (by decide)).pad (pad_rep [] (.int (0 : Int32)) 4)
  refine Goes.on (B := T5.setTop (mkF m 94 #[.val (.int (4 : Int32)), .val (.int c0), .val (.int c1), .val (.int c2), .val (.int c3)] [(.ref b5), (.ref b1), (.ref b1)])) (fun t k => st5 t k) ?_
  refine Goes.on (B := T5.setTop (mkF m 97 #[.val (.int (4 : Int32)), .val (.int c0), .val (.int c1), .val (.int c2), .val (.int c3)] [(.int c0), (.int (0 : Int32)), (.ref b5), (.ref b5), (.ref b1), (.ref b1)])) (fun _ k => XS.dup X5.here hx rfl (hb hby d2_94) rfl rfl (XS.iconst X5.here hx rfl (hb hby d2_95) (XS.iloadN X5.here hx rfl (hb hby d2_96) rfl  k))) ?_
  obtain ⟨cl12, Ar12, q12, S12, Nn12, H12, G12⟩ := id V5
  have hin12 : ¬ ((0 : Int32) < 0 ∨ cl12.slots.size ≤ ((0 : Int32)).toNatClampNeg) := inb_of S12 ⟨by decide, by decide⟩
  obtain ⟨T13, h13, X13, e13, W13, st13⟩ := stC X5 hx hZ e5 Ar12 (j := (0 : Int32)) hin12 (g := (mkF m 97 #[.val (.int (4 : Int32)), .val (.int c0), .val (.int c1), .val (.int c2), .val (.int c3)] [(.int c0), (.int (0 : Int32)), (.ref b5), (.ref b5), (.ref b1), (.ref b1)])) rfl rfl (hb hby d2_97)
  have V13 : Arv Z h13 b5 k5 .char (4 : Int32) [(.int (nar .char c0)), (.int (0 : Int32)), (.int (0 : Int32)), (.int (0 : Int32))] (.int (0 : Int32)) := Arv.set Ar12 q12 S12 Nn12 H12 G12 (fits_nar_char _) W13 0 rfl (Nat.le_of_ble_eq_true rfl)
  have f14 := f6.wr W13 g_b5
  have f15 := f7.wr W13
  have f16 := f8.other W13 (Or.inl ne_b1_b5)
  have f17 := f9.other W13 (Or.inl ne_b1_b5)
  have z18 : n0 ≤ h13.size := Nat.le_trans z10 (Keep.of_wr W13).1
  have K19 : Keep h0 h13 [] := K11.wr W13 (Or.inr sz_b5)
  have N13 := Fr.snoc X13 N0 g_b5
  refine Goes.on (B := T13.setTop (mkF m 98 #[.val (.int (4 : Int32)), .val (.int c0), .val (.int c1), .val (.int c2), .val (.int c3)] [(.ref b5), (.ref b1), (.ref b1)])) (fun t k => st13 t k) ?_
  refine Goes.on (B := T13.setTop (mkF m 101 #[.val (.int (4 : Int32)), .val (.int c0), .val (.int c1), .val (.int c2), .val (.int c3)] [(.int c1), (.int (1 : Int32)), (.ref b5), (.ref b5), (.ref b1), (.ref b1)])) (fun _ k => XS.dup X13.here hx rfl (hb hby d2_98) rfl rfl (XS.iconst X13.here hx rfl (hb hby d2_99) (XS.iloadN X13.here hx rfl (hb hby d2_100) rfl  k))) ?_
  obtain ⟨cl20, Ar20, q20, S20, Nn20, H20, G20⟩ := id V13
  have hin20 : ¬ ((1 : Int32) < 0 ∨ cl20.slots.size ≤ ((1 : Int32)).toNatClampNeg) := inb_of S20 ⟨by decide, by decide⟩
  obtain ⟨T21, h21, X21, e21, W21, st21⟩ := stC X13 hx hZ e13 Ar20 (j := (1 : Int32)) hin20 (g := (mkF m 101 #[.val (.int (4 : Int32)), .val (.int c0), .val (.int c1), .val (.int c2), .val (.int c3)] [(.int c1), (.int (1 : Int32)), (.ref b5), (.ref b5), (.ref b1), (.ref b1)])) rfl rfl (hb hby d2_101)
  have V21 : Arv Z h21 b5 k5 .char (4 : Int32) [(.int (nar .char c0)), (.int (nar .char c1)), (.int (0 : Int32)), (.int (0 : Int32))] (.int (0 : Int32)) := Arv.set Ar20 q20 S20 Nn20 H20 G20 (fits_nar_char _) W21 1 rfl (Nat.le_of_ble_eq_true rfl)
  have f22 := f14.wr W21 g_b5
  have f23 := f15.wr W21
  have f24 := f16.other W21 (Or.inl ne_b1_b5)
  have f25 := f17.other W21 (Or.inl ne_b1_b5)
  have z26 : n0 ≤ h21.size := Nat.le_trans z18 (Keep.of_wr W21).1
  have K27 : Keep h0 h21 [] := K19.wr W21 (Or.inr sz_b5)
  have N21 := Fr.snoc X21 N13 g_b5
  refine Goes.on (B := T21.setTop (mkF m 102 #[.val (.int (4 : Int32)), .val (.int c0), .val (.int c1), .val (.int c2), .val (.int c3)] [(.ref b5), (.ref b1), (.ref b1)])) (fun t k => st21 t k) ?_
  refine Goes.on (B := T21.setTop (mkF m 105 #[.val (.int (4 : Int32)), .val (.int c0), .val (.int c1), .val (.int c2), .val (.int c3)] [(.int c2), (.int (2 : Int32)), (.ref b5), (.ref b5), (.ref b1), (.ref b1)])) (fun _ k => XS.dup X21.here hx rfl (hb hby d2_102) rfl rfl (XS.iconst X21.here hx rfl (hb hby d2_103) (XS.iloadN X21.here hx rfl (hb hby d2_104) rfl  k))) ?_
  obtain ⟨cl28, Ar28, q28, S28, Nn28, H28, G28⟩ := id V21
  have hin28 : ¬ ((2 : Int32) < 0 ∨ cl28.slots.size ≤ ((2 : Int32)).toNatClampNeg) := inb_of S28 ⟨by decide, by decide⟩
  obtain ⟨T29, h29, X29, e29, W29, st29⟩ := stC X21 hx hZ e21 Ar28 (j := (2 : Int32)) hin28 (g := (mkF m 105 #[.val (.int (4 : Int32)), .val (.int c0), .val (.int c1), .val (.int c2), .val (.int c3)] [(.int c2), (.int (2 : Int32)), (.ref b5), (.ref b5), (.ref b1), (.ref b1)])) rfl rfl (hb hby d2_105)
  have V29 : Arv Z h29 b5 k5 .char (4 : Int32) [(.int (nar .char c0)), (.int (nar .char c1)), (.int (nar .char c2)), (.int (0 : Int32))] (.int (0 : Int32)) := Arv.set Ar28 q28 S28 Nn28 H28 G28 (fits_nar_char _) W29 2 rfl (Nat.le_of_ble_eq_true rfl)
  have f30 := f22.wr W29 g_b5
  have f31 := f23.wr W29
  have f32 := f24.other W29 (Or.inl ne_b1_b5)
  have f33 := f25.other W29 (Or.inl ne_b1_b5)
  have z34 : n0 ≤ h29.size := Nat.le_trans z26 (Keep.of_wr W29).1
  have K35 : Keep h0 h29 [] := K27.wr W29 (Or.inr sz_b5)
  have N29 := Fr.snoc X29 N21 g_b5
  refine Goes.on (B := T29.setTop (mkF m 106 #[.val (.int (4 : Int32)), .val (.int c0), .val (.int c1), .val (.int c2), .val (.int c3)] [(.ref b5), (.ref b1), (.ref b1)])) (fun t k => st29 t k) ?_
  refine Goes.on (B := T29.setTop (mkF m 110 #[.val (.int (4 : Int32)), .val (.int c0), .val (.int c1), .val (.int c2), .val (.int c3)] [(.int c3), (.int (3 : Int32)), (.ref b5), (.ref b5), (.ref b1), (.ref b1)])) (fun _ k => XS.dup X29.here hx rfl (hb hby d2_106) rfl rfl (XS.iconst X29.here hx rfl (hb hby d2_107) (XS.iload X29.here hx rfl (hb hby d2_108) rfl  k))) ?_
  obtain ⟨cl36, Ar36, q36, S36, Nn36, H36, G36⟩ := id V29
  have hin36 : ¬ ((3 : Int32) < 0 ∨ cl36.slots.size ≤ ((3 : Int32)).toNatClampNeg) := inb_of S36 ⟨by decide, by decide⟩
  obtain ⟨T37, h37, X37, e37, W37, st37⟩ := stC X29 hx hZ e29 Ar36 (j := (3 : Int32)) hin36 (g := (mkF m 110 #[.val (.int (4 : Int32)), .val (.int c0), .val (.int c1), .val (.int c2), .val (.int c3)] [(.int c3), (.int (3 : Int32)), (.ref b5), (.ref b5), (.ref b1), (.ref b1)])) rfl rfl (hb hby d2_110)
  have V37 : Arv Z h37 b5 k5 .char (4 : Int32) [(.int (nar .char c0)), (.int (nar .char c1)), (.int (nar .char c2)), (.int (nar .char c3))] (.int (0 : Int32)) := Arv.set Ar36 q36 S36 Nn36 H36 G36 (fits_nar_char _) W37 3 rfl (Nat.le_of_ble_eq_true rfl)
  have f38 := f30.wr W37 g_b5
  have f39 := f31.wr W37
  have f40 := f32.other W37 (Or.inl ne_b1_b5)
  have f41 := f33.other W37 (Or.inl ne_b1_b5)
  have z42 : n0 ≤ h37.size := Nat.le_trans z34 (Keep.of_wr W37).1
  have K43 : Keep h0 h37 [] := K35.wr W37 (Or.inr sz_b5)
  have N37 := Fr.snoc X37 N29 g_b5
  refine Goes.on (B := T37.setTop (mkF m 111 #[.val (.int (4 : Int32)), .val (.int c0), .val (.int c1), .val (.int c2), .val (.int c3)] [(.ref b5), (.ref b1), (.ref b1)])) (fun t k => st37 t k) ?_
  have VC : Arv Z h37 b5 k5 .char (4 : Int32) [(.int c0), (.int c1), (.int c2), (.int c3)] (.int (0 : Int32)) := by
    have q := V37
    rw [own_narc r0, own_narc r1, own_narc r2, own_narc r3] at q
    exact q
  by_cases hall : (¬ (255 : Int32) < c0 ∧ ¬ (255 : Int32) < c1 ∧ ¬ (255 : Int32) < c2 ∧ ¬ (255 : Int32) < c3)
  · obtain ⟨v0, v1, v2, v3⟩ := hall
    have hp : ∀ q ∈ ([c0, c1, c2, c3] : List Int32), ¬ q < 0 ∧ ¬ (255 : Int32) < q := by
      intro q hq
      simp only [List.mem_cons, List.not_mem_nil, or_false] at hq
      rcases hq with rfl | rfl | rfl | rfl
      · exact ⟨r0.1, v0⟩
      · exact ⟨r1.1, v1⟩
      · exact ⟨r2.1, v2⟩
      · exact ⟨r3.1, v3⟩
    have hws : ∀ d ∈ StrChars.Road.words, d.before a0 Z = true := fun d hd => hw d ((by decide +kernel : ∀ d ∈ StrChars.Road.words, d ∈ tables_1) d hd)
    obtain ⟨_, _, ⟨T44, L44, k44, n44⟩, -, X44, ⟨Lc44, hQ44, l44, y44, z44⟩, st44⟩ := X37.specialBack hx (y := (⟨"java/lang/String", "<init>", "([C)V"⟩ : MethodName)) rfl hown (mvT hZ (hw _ (om 12 rfl))) (mvT hZ (hw _ (om 13 rfl))) (mvT hZ (hw _ (om 14 rfl))) (by decide) (StrChars.Road.backV (W := 1) hZ hws (kI := 4) (hw _ (om 9 rfl)) (cs := ([c0, c1, c2, c3] : List Int32)) (bs := (([c0, c1, c2, c3] : List Int32)).map (fun c => c.toInt8.toInt32)) (n := 4) g_b1 z42 f39 f40 f41 VC (SS.1.ext f38.2) SS.2.1 rfl rfl (by decide) (by decide) hp rfl (by decide) (by decide)) (g := (mkF m 111 #[.val (.int (4 : Int32)), .val (.int c0), .val (.int c1), .val (.int c2), .val (.int c3)] [(.ref b5), (.ref b1), (.ref b1)])) rfl (by rw [hml]; rfl) (Steps.refl _) (a := b1) (argsL := [(.ref b5)]) (rest := [(.ref b1)]) (lenOf pd_2___C_V rfl) rfl (by show 2 * 0 + _ ≤ _; exact Nat.le_of_eq rfl) (hb hby d2_111) (fun _ _ => ⟨rfl, e37, (by decide : 2 + 1 ≤ _), (by decide : 8 + 4 ≤ _)⟩)
    dsimp only [Pt.U, Pt.locs, Pt.cells, Pt.slots] at X44 l44 y44 z44 st44 hQ44
    subst l44 y44 z44
    obtain ⟨rfl, Nq44, Kq44, Eq44, Cq44, t44, kt44, -, -, -, Fq44, Aq44⟩ := hQ44
    obtain ⟨h44, eh44⟩ : ∃ h, T44.heap = h := ⟨_, rfl⟩
    rw [eh44] at Kq44 Eq44 Cq44 Fq44 Aq44
    have f45 := f38.keep Kq44 (allS g_b1 all0)
    have f46 := f39.keep Kq44
    have f47 := VC.keep Kq44 (ninS (Ne.symm ne_b1_b5) nin0)
    have z48 : n0 ≤ h44.size := Nat.le_trans z42 Kq44.1
    have K49 : Keep h0 h44 [] := K43.trans Kq44 (allS (Or.inr sz_b1) all0)
    have N44 := Fr.app N37 Nq44
    refine Goes.on (B := T44.setTop (mkF m 114 #[.val (.int (4 : Int32)), .val (.int c0), .val (.int c1), .val (.int c2), .val (.int c3)] [(.ref b1)])) (fun t k => st44.trans k) ?_
    obtain ⟨fs, hr, hrun, hended, hW, hsame⟩ := X44.leave (v := some (.ref b1)) (fun h => by rw [Bd.returns] at h; cases h)
    exact Goes.leaf (own_retR X44 hx Bd.returns rfl rfl (hb hby d2_114) hr) hrun hended ⟨_, _, rfl, by show Qk4 Z c0 c1 c2 c3 GA GB h0 n0 _ T44.heap _; rw [eh44]; exact ⟨b1, rfl, N44, K49, g_b1, Eq44, t44, kt44, Fq44, Or.inl ⟨Cq44, Aq44, hp⟩⟩, ⟨_, rfl⟩, hW, hsame.mono (by decide) (by decide)⟩
  · have hwd := hall
    obtain ⟨_, _, ⟨T50, L50, k50, n50⟩, -, X50, ⟨Lc50, hQ50, l50, y50, z50⟩, st50⟩ := X37.specialBack hx (y := (⟨"java/lang/String", "<init>", "([C)V"⟩ : MethodName)) rfl hown (mvT hZ (hw _ (om 12 rfl))) (mvT hZ (hw _ (om 13 rfl))) (mvT hZ (hw _ (om 14 rfl))) (by decide) (backOf (W := 1) (rmu4 l Z a0 hw [] b1 b5 k5 c0 c1 c2 c3 GA GB h37 n0 z42 SS f38 f39 f41 f40 g_b1 VC r0 r1 r2 r3 hwd) hZ (hw _ (om 14 rfl)) (hw _ (om 10 rfl)) (by decide) (by decide)) (g := (mkF m 111 #[.val (.int (4 : Int32)), .val (.int c0), .val (.int c1), .val (.int c2), .val (.int c3)] [(.ref b5), (.ref b1), (.ref b1)])) rfl (by rw [hml]; rfl) (Steps.refl _) (a := b1) (argsL := [(.ref b5)]) (rest := [(.ref b1)]) (lenOf pd_2___C_V rfl) rfl (by show 2 * 0 + _ ≤ _; exact Nat.le_of_eq rfl) (hb hby d2_111) (fun _ _ => ⟨rfl, e37, (by decide : 2 + 2 ≤ _), (by decide : 8 + 12 ≤ _)⟩)
    dsimp only [Pt.U, Pt.locs, Pt.cells, Pt.slots] at X50 l50 y50 z50 st50 hQ50
    subst l50 y50 z50
    obtain ⟨rfl, Nq50, Kq50, Eq50, Cq50, t50, kt50, gt50, Fq50, Aq50⟩ := hQ50
    obtain ⟨h50, eh50⟩ : ∃ h, T50.heap = h := ⟨_, rfl⟩
    rw [eh50] at Kq50 Eq50 Cq50 Fq50 Aq50
    have f51 := f38.keep Kq50 (allS g_b1 all0)
    have f52 := f39.keep Kq50
    have f53 := VC.keep Kq50 (ninS (Ne.symm ne_b1_b5) nin0)
    have z54 : n0 ≤ h50.size := Nat.le_trans z42 Kq50.1
    have K55 : Keep h0 h50 [] := K43.trans Kq50 (allS (Or.inr sz_b1) all0)
    have N50 := Fr.app N37 Nq50
    refine Goes.on (B := T50.setTop (mkF m 114 #[.val (.int (4 : Int32)), .val (.int c0), .val (.int c1), .val (.int c2), .val (.int c3)] [(.ref b1)])) (fun t k => st50.trans k) ?_
    obtain ⟨fs, hr, hrun, hended, hW, hsame⟩ := X50.leave (v := some (.ref b1)) (fun h => by rw [Bd.returns] at h; cases h)
    exact Goes.leaf (own_retR X50 hx Bd.returns rfl rfl (hb hby d2_114) hr) hrun hended ⟨_, _, rfl, by show Qk4 Z c0 c1 c2 c3 GA GB h0 n0 _ T50.heap _; rw [eh50]; exact ⟨b1, rfl, N50, K55, g_b1, Eq50, t50, _, Fq50, Or.inr ⟨Cq50, Aq50⟩⟩, ⟨_, rfl⟩, hW, hsame.mono (by decide) (by decide)⟩
theorem own_backOfS {p : Program} {l : Launch} {e : Env} {R : Room} {s : State} {args : Array Value} {below : List Frame} {Z : State} {a0 : Array Value} {h : Heap} {y : MethodName} {bytes : ByteArray} {maxL : Nat} {ret : Option FieldType} {rm : Room} {len W : Nat} {as' : Array Value} {Q : Option Value → Heap → List Loc → Prop}
    (hM : MetFree l y (head1 [Jvm.Cond.code y bytes maxL ret] rm) (fun a U => a = as' ∧ Z.Warmed39 U.vm ∧ U.heap = h ∧ U.vm.interned = Z.vm.interned) (fun _ _ _ _ _ => True) (fun _ U o U' => ∃ v L, o = .returned v ∧ Q v U'.heap L ∧ ReturnedEndW U o U' L rm.cells rm.slots))
    (hZ : Z.Warmed39 s.vm) (hI : s.vm.interned = Z.vm.interned) (wc : (Jvm.Cond.code y bytes maxL ret).before a0 Z = true) (wz : (Jvm.Cond.initialized y.cls).before a0 Z = true) (hf : rm.frames + 1 ≤ R.frames) (hl : W + (maxL + 11) + rm.locals ≤ R.locals) :
    BackS l R p e below s args y len W (fun A a => a = as' ∧ A.U.heap = h ∧ A.cells + rm.cells ≤ R.cells ∧ A.slots + rm.slots ≤ R.slots)
      (fun A _ v B => ∃ L, Q v B.U.heap L ∧ B.locs = A.locs ++ L ∧ B.cells = A.cells + rm.cells ∧ B.slots = A.slots + rm.slots) :=
  BackS.of_freeW (bytes := bytes) (maxL := maxL) (ret := ret) (E := fun _ _ o t L k n => k = rm.cells ∧ n = rm.slots ∧ ∃ v, o = .returned v ∧ Q v t.heap L) hM hf hl
    (fun m meth c A a Y hp => have hU : Z.Warmed39 A.U.vm := wtrans hZ Y.warmed
      ⟨by show (Jvm.Cond.and _ .tt).before a A.U = true; rw [Cond.before_and, mv hU wc]; rfl, mv hU wc, mv hU wz, hp.2.2.1, hp.2.2.2⟩)
    (fun m meth c A a g mk Y hp => ⟨hp.1, wtrans hZ Y.warmed, hp.2.1, Y.warmed.interned_eq.trans hI⟩) (fun _ _ _ _ _ _ _ _ _ => trivial)
    (fun _ _ _ _ ⟨v, L, h1, h2, h3⟩ => ⟨L, _, _, h3, rfl, rfl, v, h1, h2⟩)
    (fun m meth c A a g mk v t L k n Y hp _ _ ⟨e1, e2, v', e3, e4⟩ => by cases e3; subst e1 e2; exact ⟨L, e4, rfl, rfl, rfl⟩)
theorem own_IB {Z : State} {vm : Vm} (h : vm.interned = Z.vm.interned) : IB Z vm [] := ⟨#[], by rw [h]; simp, fun q hq => by simp at hq⟩
theorem d4_8 : decode jdk_42_method_149_code 8 = .ok (.aload_n 0, 1) := by decide +kernel
theorem d4_9 : decode jdk_42_method_149_code 9 = .ok (.ldc 7, 2) := by decide +kernel
theorem d4_11 : decode jdk_42_method_149_code 11 = .ok (.getfield 9, 3) := by decide +kernel
theorem d4_14 : decode jdk_42_method_149_code 14 = .ok (.putfield 9, 3) := by decide +kernel
theorem d4_17 : decode jdk_42_method_149_code 17 = .ok (.aload_n 0, 1) := by decide +kernel
theorem d4_18 : decode jdk_42_method_149_code 18 = .ok (.ldc 7, 2) := by decide +kernel
theorem d4_20 : decode jdk_42_method_149_code 20 = .ok (.getfield 15, 3) := by decide +kernel
theorem d4_23 : decode jdk_42_method_149_code 23 = .ok (.putfield 15, 3) := by decide +kernel
theorem d4_26 : decode jdk_42_method_149_code 26 = .ok (.return_, 1) := by decide +kernel
theorem ef_v0 (m : MethodId) (x0 : Addr) (x1 : Addr) (x2 : Int32) (x3 : Int32) : entryFrame m #[(.ref x0), (.ref x1), (.int x2), (.int x3), .null] 6 = mkF m 0 #[.val (.ref x0), .val (.ref x1), .val (.int x2), .val (.int x3), .val .null, .unset] [] := by first | (simp [entryFrame, mkF, argsToLocals, Value.category]; done) | rfl
def Qv0 (Z : State) (x : Addr) (a : Addr) (GA : Int32) (GB : Value) (h0 : Heap) (n0 : Nat) (v : Option Value) (h : Heap) (L : List Loc) : Prop := v = none ∧ Fr n0 L ∧ Keep h0 h [x] ∧ Exa Z h x "java/lang/String" ∧ Fld Z h x "java/lang/String" "coder" "B" (.int (0 : Int32)) ∧ ∃ (t : Addr) (kb : ClassId), Fld Z h x "java/lang/String" "value" "[B" (.ref t) ∧ Arv Z h t kb .byte (0 : Int32) [] (.int (0 : Int32))
set_option maxRecDepth 65536 in
set_option maxHeartbeats 40000000 in
theorem rmv0 (l : Launch) (Z : State) (a0 : Array Value) (hw : ∀ d ∈ tables_1, d.before a0 Z = true) (ws : List Jvm.Cond) (x : Addr) (a : Addr) (GA : Int32) (GB : Value) (h0 : Heap) (n0 : Nat) (Z0 : n0 ≤ h0.size) (SS : own_St Z GA GB) (X00 : Old Z n0 h0) (hcw : Jvm.Lit.compactW.before a0 Z = true) (hheld : Jvm.Lit.constHeld Z "java/lang/String" 7) (EX : Exa Z h0 x "java/lang/String") (FC : Fld Z h0 x "java/lang/String" "coder" "B" (.int (0 : Int32))) (FV : Fld Z h0 x "java/lang/String" "value" "[B" .null) (gx : n0 ≤ x) :
    MetFree l (⟨"java/lang/String", "<init>", "([CIILjava/lang/Void;)V"⟩ : MethodName) (head1 (Jvm.Cond.code (⟨"java/lang/String", "<init>", "([CIILjava/lang/Void;)V"⟩ : MethodName) jdk_42_method_149_code 6 none :: ws) ({ frames := 1, cells := 2, slots := 4, locals := 14 } : Room)) (fun aa U => aa = #[(.ref x), (.ref a), (.int (0 : Int32)), (.int (0 : Int32)), .null] ∧ Z.Warmed39 U.vm ∧ U.heap = h0 ∧ U.vm.interned = Z.vm.interned) (fun _ _ _ _ _ => True) (fun _ U oo U' => ∃ vv LL, oo = .returned vv ∧ Qv0 Z x a GA GB h0 n0 vv U'.heap LL ∧ ReturnedEndW U oo U' LL ({ frames := 1, cells := 2, slots := 4, locals := 14 } : Room).cells ({ frames := 1, cells := 2, slots := 4, locals := 14 } : Room).slots) := by
  refine MetFree.of_bodySF (plainFor_of_name pn_4) hisR ?_
  intro p e s m args below meth c s₁ Bd hml0 hP hK
  obtain ⟨rfl, hZ, hh, hI⟩ := hP
  have hx := Bd.exec
  have hby := Bd.bytes
  have hml : c.maxLocals = 6 := hml0
  have hown : s.vm.findClass "java/lang/String" = some m.cls := findClass_of_methodNamed Bd.named
  have hnm := (name_of_methodNamed Bd.named Bd.method).1
  have X0 : Stand p l e ({ frames := 1, cells := 2, slots := 4, locals := 14 } : Room) s m #[(.ref x), (.ref a), (.int (0 : Int32)), (.int (0 : Int32)), .null] below meth c s₁ [] 0 0 := Stand.of_body Bd
  have e0 : s₁.heap = h0 := by rw [← hh, Bd.state]; rfl
  have N0 := Fr.nil n0
  show Goes p e below _ (s₁.setTop (entryFrame m #[(.ref x), (.ref a), (.int (0 : Int32)), (.int (0 : Int32)), .null] 6))
  refine Goes.on (B := s₁.setTop (mkF m 0 #[.val (.ref x), .val (.ref a), .val (.int (0 : Int32)), .val (.int (0 : Int32)), .val .null, .unset] [])) (fun t k => castTop (ef_v0 m x a (0 : Int32) (0 : Int32)) k) ?_
  refine Goes.on (B := s₁.setTop (mkF m 1 #[.val (.ref x), .val (.ref a), .val (.int (0 : Int32)), .val (.int (0 : Int32)), .val .null, .unset] [(.ref x)])) (fun _ k => XS.aloadN X0.here hx rfl (hb hby d4_0) rfl rfl  k) ?_
  obtain ⟨T1, X1, e1, st1⟩ := initO X0 hx hZ hown (hw _ (om 19 rfl)) (hw _ (om 20 rfl)) (hw _ (om 21 rfl)) e0 (g := (mkF m 1 #[.val (.ref x), .val (.ref a), .val (.int (0 : Int32)), .val (.int (0 : Int32)), .val .null, .unset] [(.ref x)])) rfl (by rw [hml]; rfl) rfl (hb hby d4_1) (by decide) (W := 0) (by show 2 * 0 + _ ≤ _; exact Nat.le_of_eq rfl) (by decide)
  refine Goes.on (B := T1.setTop (mkF m 4 #[.val (.ref x), .val (.ref a), .val (.int (0 : Int32)), .val (.int (0 : Int32)), .val .null, .unset] [])) (fun t k => st1 t k) ?_
  refine Goes.on (B := T1.setTop (mkF m 9 #[.val (.ref x), .val (.ref a), .val (.int (0 : Int32)), .val (.int (0 : Int32)), .val .null, .unset] [(.ref x)])) (fun _ k => XS.iloadN X1.here hx rfl (hb hby d4_4) rfl  (XS.ifNo X1.here hx rfl (hb hby d4_5) rfl ((if0 _ _).trans (teq (by decide)).2) (XS.aloadN X1.here hx rfl (hb hby d4_8) rfl rfl  k))) ?_
  have hwS : ∀ d ∈ Bundle.stringAtoms, d.before a0 Z = true := fun d hd => hw d ((by decide +kernel : ∀ d ∈ Bundle.stringAtoms, d ∈ tables_1) d hd)
  obtain ⟨x2, T2, h2, k12, y2, ky2, X2, e2, E2, hS2, hk2, hZ, hown, EX2, CX2, VX2, AX2, -, -, -, LT2, st2⟩ := ldcSVL (s := s) (vm0 := s.vm) X1 hx hZ hown (hw _ (om 22 rfl)) hwS e1 (State.WarmedH.since (State.WarmedH.refl s) 0) (Nat.zero_le _) (Fr.nil _) (fun q1 q2 q => by rw [hh]; exact X00.2.2 q1 q2 q) (own_IB hI) List.not_mem_nil hheld hcw (vs := []) (z := (0 : Int32)) ⟨by decide, by decide⟩ (by decide) (by decide) (g := (mkF m 9 #[.val (.ref x), .val (.ref a), .val (.int (0 : Int32)), .val (.int (0 : Int32)), .val .null, .unset] [(.ref x)])) rfl (hb hby d4_9) (n := 0) (by decide) (by decide) (by decide) (by decide)
  have f3 := X00.ext E2
  have f4 := EX.ext E2
  have f5 := FC.ext E2
  have f6 := FV.ext E2
  have z7 : n0 ≤ h2.size := Nat.le_trans Z0 E2.1
  have K8 : Keep h0 h2 [x] := (Keep.refl h0 [x]).ext E2
  skip
  have nlx : x2 ≠ x := Fld.ne VX2 f6 (by simp)
  have nly : x ≠ y2 := Exa.neArv f4 AX2 (hw _ (om 9 rfl))
  refine Goes.on (B := T2.setTop (mkF m 11 #[.val (.ref x), .val (.ref a), .val (.int (0 : Int32)), .val (.int (0 : Int32)), .val .null, .unset] [(.ref x2), (.ref x)])) (fun t k => st2 t k) ?_
  obtain ⟨T9, X9, e9, st9⟩ := getF X2 hx hZ hown (host := "") (Or.inl (hw _ (om 28 rfl))) Via.refl e2 VX2 (g := (mkF m 11 #[.val (.ref x), .val (.ref a), .val (.int (0 : Int32)), .val (.int (0 : Int32)), .val .null, .unset] [(.ref x2), (.ref x)])) rfl rfl (hb hby d4_11)
  refine Goes.on (B := T9.setTop (mkF m 14 #[.val (.ref x), .val (.ref a), .val (.int (0 : Int32)), .val (.int (0 : Int32)), .val .null, .unset] [(.ref y2), (.ref x)])) (fun t k => st9 t k) ?_
  obtain ⟨T10, h10, X10, e10, W10, st10⟩ := putF X9 hx hZ hown (host := "") (Or.inl (hw _ (om 28 rfl))) Via.refl e9 f6 f4 (Or.inr ⟨(hw _ (om 24 rfl)), rfl, hnm⟩) (hw _ (om 9 rfl)) (ty := (.array .byte)) (by decide) rfl rfl (g := (mkF m 14 #[.val (.ref x), .val (.ref a), .val (.int (0 : Int32)), .val (.int (0 : Int32)), .val .null, .unset] [(.ref y2), (.ref x)])) rfl rfl (hb hby d4_14)
  have f11 := f3.wr W10 gx
  have f12 := f4.wr W10
  have f13 := f5.other W10 (Or.inr (slot_ne (Or.inr (hw _ (om 25 rfl))) (Or.inr (hw _ (om 24 rfl))) (by decide) (t := .byte) (t' := (.array .byte)) (by decide) (by decide)))
  have f14 := f6.same W10
  have f15 := EX2.wr W10
  have f16 := CX2.other W10 (Or.inl nlx)
  have f17 := VX2.other W10 (Or.inl nlx)
  have f18 := AX2.other W10 (Ne.symm nly)
  have z19 : n0 ≤ h10.size := Nat.le_trans z7 (Keep.of_wr W10).1
  have hk20 := Nat.le_trans hk2 (Keep.of_wr W10).1
  have K21 : Keep h0 h10 [x] := K8.wr W10 (Or.inl (om 0 rfl))
  have N10 := Fr.snoc X10 N0 gx
  refine Goes.on (B := T10.setTop (mkF m 17 #[.val (.ref x), .val (.ref a), .val (.int (0 : Int32)), .val (.int (0 : Int32)), .val .null, .unset] [])) (fun t k => st10 t k) ?_
  refine Goes.on (B := T10.setTop (mkF m 20 #[.val (.ref x), .val (.ref a), .val (.int (0 : Int32)), .val (.int (0 : Int32)), .val .null, .unset] [(.ref x2), (.ref x)])) (fun _ k => XS.aloadN X10.here hx rfl (hb hby d4_17) rfl rfl  (ldcAgain (vm0 := T2.vm) X10 hx hZ hown (hw _ (om 22 rfl)) LT2 (g := (mkF m 18 #[.val (.ref x), .val (.ref a), .val (.int (0 : Int32)), .val (.int (0 : Int32)), .val .null, .unset] [(.ref x)])) rfl (hb hby d4_18) _ k)) ?_
  obtain ⟨T22, X22, e22, st22⟩ := getF X10 hx hZ hown (host := "") (Or.inl (hw _ (om 29 rfl))) Via.refl e10 f16 (g := (mkF m 20 #[.val (.ref x), .val (.ref a), .val (.int (0 : Int32)), .val (.int (0 : Int32)), .val .null, .unset] [(.ref x2), (.ref x)])) rfl rfl (hb hby d4_20)
  refine Goes.on (B := T22.setTop (mkF m 23 #[.val (.ref x), .val (.ref a), .val (.int (0 : Int32)), .val (.int (0 : Int32)), .val .null, .unset] [(.int (0 : Int32)), (.ref x)])) (fun t k => st22 t k) ?_
  obtain ⟨T23, h23, X23, e23, W23, st23⟩ := putF X22 hx hZ hown (host := "") (Or.inl (hw _ (om 29 rfl))) Via.refl e22 f13 f12 (Or.inr ⟨(hw _ (om 25 rfl)), rfl, hnm⟩) (hw _ (om 9 rfl)) (ty := .byte) (by decide) rfl rfl (g := (mkF m 23 #[.val (.ref x), .val (.ref a), .val (.int (0 : Int32)), .val (.int (0 : Int32)), .val .null, .unset] [(.int (0 : Int32)), (.ref x)])) rfl rfl (hb hby d4_23)
  have f24 := f11.wr W23 gx
  have f25 := f12.wr W23
  have f26 := f13.same W23
  have f27 := f14.other W23 (Or.inr (slot_ne (Or.inr (hw _ (om 24 rfl))) (Or.inr (hw _ (om 25 rfl))) (by decide) (t := (.array .byte)) (t' := .byte) (by decide) (by decide)))
  have f28 := f15.wr W23
  have f29 := f16.other W23 (Or.inl nlx)
  have f30 := f17.other W23 (Or.inl nlx)
  have f31 := f18.other W23 (Ne.symm nly)
  have z32 : n0 ≤ h23.size := Nat.le_trans z19 (Keep.of_wr W23).1
  have hk33 := Nat.le_trans hk20 (Keep.of_wr W23).1
  have K34 : Keep h0 h23 [x] := K21.wr W23 (Or.inl (om 0 rfl))
  have N23 := Fr.snoc X23 N10 gx
  refine Goes.on (B := T23.setTop (mkF m 26 #[.val (.ref x), .val (.ref a), .val (.int (0 : Int32)), .val (.int (0 : Int32)), .val .null, .unset] [])) (fun t k => st23 t k) ?_
  obtain ⟨fs, hr, hrun, hended, hend⟩ := X23.leaveW hS2 (by rw [e23]; first | exact hk33 | exact Nat.le_refl _) (v := none) (fun _ => rfl)
  exact Goes.leaf (X23.returnOut hx Bd.returns (hb hby d4_26) hr) hrun hended ⟨_, _, rfl, by show Qv0 Z x a GA GB h0 n0 _ T23.heap _; rw [e23]; exact ⟨rfl, N23, K34, f25, f26, y2, _, f27, f31⟩, hend.1, hend.2.1, hend.2.2.1, hend.2.2.2.mono (by decide) (by decide)⟩
theorem ef_u0 (m : MethodId) (x0 : Addr) (x1 : Addr) : entryFrame m #[(.ref x0), (.ref x1)] 2 = mkF m 0 #[.val (.ref x0), .val (.ref x1)] [] := by first | (simp [entryFrame, mkF, argsToLocals, Value.category]; done) | rfl
def Qu0 (Z : State) (x : Addr) (a : Addr) (kC : ClassId) (GA : Int32) (GB : Value) (h0 : Heap) (n0 : Nat) (v : Option Value) (h : Heap) (L : List Loc) : Prop := v = none ∧ Fr n0 L ∧ Keep h0 h [x] ∧ Exa Z h x "java/lang/String" ∧ Fld Z h x "java/lang/String" "coder" "B" (.int (0 : Int32)) ∧ ∃ (t : Addr) (kb : ClassId), Fld Z h x "java/lang/String" "value" "[B" (.ref t) ∧ Arv Z h t kb .byte (0 : Int32) [] (.int (0 : Int32))
set_option maxRecDepth 65536 in
set_option maxHeartbeats 40000000 in
theorem rmu0 (l : Launch) (Z : State) (a0 : Array Value) (hw : ∀ d ∈ tables_1, d.before a0 Z = true) (ws : List Jvm.Cond) (x : Addr) (a : Addr) (kC : ClassId) (GA : Int32) (GB : Value) (h0 : Heap) (n0 : Nat) (Z0 : n0 ≤ h0.size) (SS : own_St Z GA GB) (X00 : Old Z n0 h0) (hcw : Jvm.Lit.compactW.before a0 Z = true) (hheld : Jvm.Lit.constHeld Z "java/lang/String" 7) (EX : Exa Z h0 x "java/lang/String") (FC : Fld Z h0 x "java/lang/String" "coder" "B" (.int (0 : Int32))) (FV : Fld Z h0 x "java/lang/String" "value" "[B" .null) (gx : n0 ≤ x) (AC : Arv Z h0 a kC .char (0 : Int32) [] (.int (0 : Int32))) :
    MetFree l (⟨"java/lang/String", "<init>", "([C)V"⟩ : MethodName) (head1 (Jvm.Cond.code (⟨"java/lang/String", "<init>", "([C)V"⟩ : MethodName) jdk_42_method_3_code 2 none :: ws) ({ frames := 2, cells := 2, slots := 4, locals := 31 } : Room)) (fun aa U => aa = #[(.ref x), (.ref a)] ∧ Z.Warmed39 U.vm ∧ U.heap = h0 ∧ U.vm.interned = Z.vm.interned) (fun _ _ _ _ _ => True) (fun _ U oo U' => ∃ vv LL, oo = .returned vv ∧ Qu0 Z x a kC GA GB h0 n0 vv U'.heap LL ∧ ReturnedEndW U oo U' LL ({ frames := 2, cells := 2, slots := 4, locals := 31 } : Room).cells ({ frames := 2, cells := 2, slots := 4, locals := 31 } : Room).slots) := by
  refine MetFree.of_bodySF (plainFor_of_name pn_3) hisR ?_
  intro p e s m args below meth c s₁ Bd hml0 hP hK
  obtain ⟨rfl, hZ, hh, hI⟩ := hP
  have hx := Bd.exec
  have hby := Bd.bytes
  have hml : c.maxLocals = 2 := hml0
  have hown : s.vm.findClass "java/lang/String" = some m.cls := findClass_of_methodNamed Bd.named
  have hnm := (name_of_methodNamed Bd.named Bd.method).1
  have X0 : Stand p l e ({ frames := 2, cells := 2, slots := 4, locals := 31 } : Room) s m #[(.ref x), (.ref a)] below meth c s₁ [] 0 0 := Stand.of_body Bd
  have e0 : s₁.heap = h0 := by rw [← hh, Bd.state]; rfl
  have N0 := Fr.nil n0
  show Goes p e below _ (s₁.setTop (entryFrame m #[(.ref x), (.ref a)] 2))
  refine Goes.on (B := s₁.setTop (mkF m 0 #[.val (.ref x), .val (.ref a)] [])) (fun t k => castTop (ef_u0 m x a) k) ?_
  refine Goes.on (B := s₁.setTop (mkF m 4 #[.val (.ref x), .val (.ref a)] [(.ref a), (.int (0 : Int32)), (.ref a), (.ref x)])) (fun _ k => XS.aloadN X0.here hx rfl (hb hby d3_0) rfl rfl  (XS.aloadN X0.here hx rfl (hb hby d3_1) rfl rfl  (XS.iconst X0.here hx rfl (hb hby d3_2) (XS.aloadN X0.here hx rfl (hb hby d3_3) rfl rfl  k)))) ?_
  obtain ⟨cl1, Ar1, -, S1, Nn1, -, -⟩ := id AC
  refine Goes.on (B := s₁.setTop (mkF m 5 #[.val (.ref x), .val (.ref a)] [(.int (0 : Int32)), (.int (0 : Int32)), (.ref a), (.ref x)])) (fun t k => X0.arraylength hx (by rw [e0]; exact Ar1.1) (State.isArrayOf_alike hZ.alike Ar1.2.1) (g := (mkF m 4 #[.val (.ref x), .val (.ref a)] [(.ref a), (.int (0 : Int32)), (.ref a), (.ref x)])) rfl rfl (hb hby d3_4) t (by rw [len_of S1 Nn1]; exact k)) ?_
  refine Goes.on (B := s₁.setTop (mkF m 6 #[.val (.ref x), .val (.ref a)] [.null, (.int (0 : Int32)), (.int (0 : Int32)), (.ref a), (.ref x)])) (fun _ k => XS.aconstNull X0.here hx rfl (hb hby d3_5) k) ?_
  obtain ⟨_, _, ⟨T2, L2, k2, n2⟩, -, X2, hS2, hg2, ⟨Lc2, hQ2, l2, y2, z2⟩, st2⟩ := X0.specialBackS hx (y := (⟨"java/lang/String", "<init>", "([CIILjava/lang/Void;)V"⟩ : MethodName)) rfl hown (mvT hZ (hw _ (om 15 rfl))) (mvT hZ (hw _ (om 16 rfl))) (mvT hZ (hw _ (om 18 rfl))) (by decide) (own_backOfS (W := 0) (rmv0 l Z a0 hw [] x a GA GB h0 n0 Z0 SS X00 hcw hheld EX FC FV gx) hZ hI (hw _ (om 18 rfl)) (hw _ (om 10 rfl)) (by decide) (by decide)) (g := (mkF m 6 #[.val (.ref x), .val (.ref a)] [.null, (.int (0 : Int32)), (.int (0 : Int32)), (.ref a), (.ref x)])) rfl (by rw [hml]; rfl) (Steps.refl _) (a := x) (argsL := [(.ref a), (.int (0 : Int32)), (.int (0 : Int32)), .null]) (rest := []) (lenOf pd_3___CIILjava_lang_Void__V rfl) rfl (by show 2 * 0 + _ ≤ _; exact Nat.le_of_eq rfl) (hb hby d3_6) (fun _ _ => ⟨rfl, e0, (by decide : 0 + 2 ≤ _), (by decide : 0 + 4 ≤ _)⟩)
  dsimp only [Pt.U, Pt.locs, Pt.cells, Pt.slots] at X2 l2 y2 z2 st2 hQ2 hS2 hg2
  subst l2 y2 z2
  have hZ : Z.Warmed39 (s.setVm T2.vm).vm := State.Warmed39.trans hZ hS2.1
  have hown : (s.setVm T2.vm).vm.findClass "java/lang/String" = some m.cls := (hS2.1.alike.findClass _ _).trans hown
  obtain ⟨rfl, Nq2, Kq2, Eq2, Cq2, t2, kt2, Fq2, Aq2⟩ := hQ2
  obtain ⟨h2, eh2⟩ : ∃ h, T2.heap = h := ⟨_, rfl⟩
  rw [eh2] at Kq2 Eq2 Cq2 Fq2 Aq2
  have f3 := X00.keep Kq2 (allS gx all0)
  have f4 := EX.keep Kq2
  have z5 : n0 ≤ h2.size := Nat.le_trans Z0 Kq2.1
  have K6 : Keep h0 h2 [x] := (Keep.refl h0 [x]).trans Kq2 (allS (Or.inl (om 0 rfl)) all0)
  have hk2 : T2.heap.size ≤ h2.size := Nat.le_of_eq (by rw [eh2])
  have N2 := Fr.app N0 Nq2
  refine Goes.on (B := T2.setTop (mkF m 9 #[.val (.ref x), .val (.ref a)] [])) (fun t k => st2.trans k) ?_
  obtain ⟨fs, hr, hrun, hended, hend⟩ := X2.leaveW hS2 (by rw [eh2]; first | exact hk2 | exact Nat.le_refl _) (v := none) (fun _ => rfl)
  exact Goes.leaf (X2.returnOut hx Bd.returns (hb hby d3_9) hr) hrun hended ⟨_, _, rfl, by show Qu0 Z x a kC GA GB h0 n0 _ T2.heap _; rw [eh2]; exact ⟨rfl, N2, K6, Eq2, Cq2, t2, _, Fq2, Aq2⟩, hend.1, hend.2.1, hend.2.2.1, hend.2.2.2.mono (by decide) (by decide)⟩
theorem d2_4 : decode method_4_code 4 = .ok (.new 7, 3) := by decide +kernel
theorem d2_7 : decode method_4_code 7 = .ok (.dup, 1) := by decide +kernel
theorem d2_8 : decode method_4_code 8 = .ok (.iconst 0, 1) := by decide +kernel
theorem d2_9 : decode method_4_code 9 = .ok (.newarray .char, 2) := by decide +kernel
theorem d2_11 : decode method_4_code 11 = .ok (.invokespecial 9, 3) := by decide +kernel
theorem d2_14 : decode method_4_code 14 = .ok (.areturn, 1) := by decide +kernel
theorem ef_k0 (m : MethodId) (x0 : Int32) (x1 : Int32) (x2 : Int32) (x3 : Int32) (x4 : Int32) : entryFrame m #[(.int x0), (.int x1), (.int x2), (.int x3), (.int x4)] 5 = mkF m 0 #[.val (.int x0), .val (.int x1), .val (.int x2), .val (.int x3), .val (.int x4)] [] := by first | (simp [entryFrame, mkF, argsToLocals, Value.category]; done) | rfl
def Qk0 (Z : State) (c0 : Int32) (c1 : Int32) (c2 : Int32) (c3 : Int32) (GA : Int32) (GB : Value) (h0 : Heap) (n0 : Nat) (v : Option Value) (h : Heap) (L : List Loc) : Prop := ∃ x, v = some (.ref x) ∧ Fr n0 L ∧ Keep h0 h [] ∧ n0 ≤ x ∧ own_S0 Z h x
set_option maxRecDepth 65536 in
set_option maxHeartbeats 40000000 in
theorem rmk0 (l : Launch) (Z : State) (a0 : Array Value) (hw : ∀ d ∈ tables_1, d.before a0 Z = true) (ws : List Jvm.Cond) (c0 : Int32) (c1 : Int32) (c2 : Int32) (c3 : Int32) (GA : Int32) (GB : Value) (h0 : Heap) (n0 : Nat) (Z0 : n0 ≤ h0.size) (SS : own_St Z GA GB) (X00 : Old Z n0 h0) (hcw : Jvm.Lit.compactW.before a0 Z = true) (hheld : Jvm.Lit.constHeld Z "java/lang/String" 7) :
    MetFree l (⟨"com/example/heirloom_archive/heirloomarchive/model/TextIsWhiteSpacePinLaw", "make", "(ICCCC)Ljava/lang/String;"⟩ : MethodName) (head1 (Jvm.Cond.code (⟨"com/example/heirloom_archive/heirloomarchive/model/TextIsWhiteSpacePinLaw", "make", "(ICCCC)Ljava/lang/String;"⟩ : MethodName) method_4_code 5 (some (.object "java/lang/String")) :: ws) ({ frames := 3, cells := 4, slots := 8, locals := 45 } : Room)) (fun aa U => aa = #[(.int (0 : Int32)), (.int c0), (.int c1), (.int c2), (.int c3)] ∧ Z.Warmed39 U.vm ∧ U.heap = h0 ∧ U.vm.interned = Z.vm.interned) (fun _ _ _ _ _ => True) (fun _ U oo U' => ∃ vv LL, oo = .returned vv ∧ Qk0 Z c0 c1 c2 c3 GA GB h0 n0 vv U'.heap LL ∧ ReturnedEndW U oo U' LL ({ frames := 3, cells := 4, slots := 8, locals := 45 } : Room).cells ({ frames := 3, cells := 4, slots := 8, locals := 45 } : Room).slots) := by
  refine MetFree.of_bodySF (plainFor_of_name pn_2) hisR ?_
  intro p e s m args below meth c s₁ Bd hml0 hP hK
  obtain ⟨rfl, hZ, hh, hI⟩ := hP
  have hx := Bd.exec
  have hby := Bd.bytes
  have hml : c.maxLocals = 5 := hml0
  have hown : s.vm.findClass "com/example/heirloom_archive/heirloomarchive/model/TextIsWhiteSpacePinLaw" = some m.cls := findClass_of_methodNamed Bd.named
  have hnm := (name_of_methodNamed Bd.named Bd.method).1
  have X0 : Stand p l e ({ frames := 3, cells := 4, slots := 8, locals := 45 } : Room) s m #[(.int (0 : Int32)), (.int c0), (.int c1), (.int c2), (.int c3)] below meth c s₁ [] 0 0 := Stand.of_body Bd
  have e0 : s₁.heap = h0 := by rw [← hh, Bd.state]; rfl
  have N0 := Fr.nil n0
  show Goes p e below _ (s₁.setTop (entryFrame m #[(.int (0 : Int32)), (.int c0), (.int c1), (.int c2), (.int c3)] 5))
  refine Goes.on (B := s₁.setTop (mkF m 0 #[.val (.int (0 : Int32)), .val (.int c0), .val (.int c1), .val (.int c2), .val (.int c3)] [])) (fun t k => castTop (ef_k0 m (0 : Int32) c0 c1 c2 c3) k) ?_
  refine Goes.on (B := s₁.setTop (mkF m 4 #[.val (.int (0 : Int32)), .val (.int c0), .val (.int c1), .val (.int c2), .val (.int c3)] [])) (fun _ k => XS.iloadN X0.here hx rfl (hb hby d2_0) rfl  (XS.ifNo X0.here hx rfl (hb hby d2_1) rfl ((if0 _ _).trans (teq (by decide)).2) k)) ?_
  obtain ⟨T1, h1, X1, e1, E1, A1, D1, -, st1⟩ := newO X0 hx hZ hown (hw _ (om 8 rfl)) (hw _ (om 9 rfl)) (hw _ (om 10 rfl)) e0 (g := (mkF m 4 #[.val (.int (0 : Int32)), .val (.int c0), .val (.int c1), .val (.int c2), .val (.int c3)] [])) rfl (hb hby d2_4) (by decide) (by decide)
  obtain ⟨b1, g1⟩ : ∃ z, z = h0.size := ⟨_, rfl⟩
  rw [← g1] at A1 D1 st1
  have f2 := X00.ext E1
  have z3 : n0 ≤ h1.size := Nat.le_trans Z0 E1.1
  have K4 : Keep h0 h1 [] := (Keep.refl h0 []).ext E1
  have g_b1 : n0 ≤ b1 := Nat.le_trans Z0 (Nat.le_of_eq g1.symm)
  have sz_b1 : h0.size ≤ b1 := Nat.le_trans (Keep.refl h0 []).1 (Nat.le_of_eq g1.symm)
  have F1_value : Fld Z h1 b1 "java/lang/String" "value" "[B" .null := D1 (Or.inr (hw _ (om 24 rfl))) (ty := (.array .byte)) (by decide)
  have F1_coder : Fld Z h1 b1 "java/lang/String" "coder" "B" (.int (0 : Int32)) := D1 (Or.inr (hw _ (om 25 rfl))) (ty := .byte) (by decide)
  refine Goes.on (B := T1.setTop (mkF m 7 #[.val (.int (0 : Int32)), .val (.int c0), .val (.int c1), .val (.int c2), .val (.int c3)] [(.ref b1)])) (fun t k => st1 t k) ?_
  refine Goes.on (B := T1.setTop (mkF m 9 #[.val (.int (0 : Int32)), .val (.int c0), .val (.int c1), .val (.int c2), .val (.int c3)] [(.int (0 : Int32)), (.ref b1), (.ref b1)])) (fun _ k => XS.dup X1.here hx rfl (hb hby d2_7) rfl rfl (XS.iconst X1.here hx rfl (hb hby d2_8) k)) ?_
  obtain ⟨T5, h5, k5, X5, e5, E5, A5, st5⟩ := newP X1 hx hZ (hw _ (om 11 rfl)) e1 (g := (mkF m 9 #[.val (.int (0 : Int32)), .val (.int c0), .val (.int c1), .val (.int c2), .val (.int c3)] [(.int (0 : Int32)), (.ref b1), (.ref b1)])) rfl (hb hby d2_9) rfl (by decide) (cap := 0) (by decide) (by decide) (by decide) (by decide)
  obtain ⟨b5, g5⟩ : ∃ z, z = h1.size := ⟨_, rfl⟩
  rw [← g5] at A5 st5
  have ne_b1_b5 : b1 ≠ b5 := Nat.ne_of_lt (Nat.lt_of_lt_of_le A1.lt (Nat.le_of_eq g5.symm))
  have f6 := f2.ext E5
  have f7 := A1.ext E5
  have f8 := F1_value.ext E5
  have f9 := F1_coder.ext E5
  have z10 : n0 ≤ h5.size := Nat.le_trans z3 E5.1
  have K11 : Keep h0 h5 [] := K4.ext E5
  have g_b5 : n0 ≤ b5 := Nat.le_trans z3 (Nat.le_of_eq g5.symm)
  have sz_b5 : h0.size ≤ b5 := Nat.le_trans K4.1 (Nat.le_of_eq g5.symm)
  have V5 : Arv Z h5 b5 k5 .char (0 : Int32) [] (.int (0 : Int32)) := (Arv.new A5 (by decide)).pad (pad_rep [] (.int (0 : Int32)) 0)
  refine Goes.on (B := T5.setTop (mkF m 11 #[.val (.int (0 : Int32)), .val (.int c0), .val (.int c1), .val (.int c2), .val (.int c3)] [(.ref b5), (.ref b1), (.ref b1)])) (fun t k => st5 t k) ?_
  obtain ⟨_, _, ⟨T12, L12, k12, n12⟩, -, X12, hS12, hg12, ⟨Lc12, hQ12, l12, y12, z12⟩, st12⟩ := X5.specialBackS hx (y := (⟨"java/lang/String", "<init>", "([C)V"⟩ : MethodName)) rfl hown (mvT hZ (hw _ (om 12 rfl))) (mvT hZ (hw _ (om 13 rfl))) (mvT hZ (hw _ (om 14 rfl))) (by decide) (own_backOfS (W := 1) (rmu0 l Z a0 hw [] b1 b5 k5 GA GB h5 n0 z10 SS f6 hcw hheld f7 f9 f8 g_b1 V5) hZ hI (hw _ (om 14 rfl)) (hw _ (om 10 rfl)) (by decide) (by decide)) (g := (mkF m 11 #[.val (.int (0 : Int32)), .val (.int c0), .val (.int c1), .val (.int c2), .val (.int c3)] [(.ref b5), (.ref b1), (.ref b1)])) rfl (by rw [hml]; rfl) (Steps.refl _) (a := b1) (argsL := [(.ref b5)]) (rest := [(.ref b1)]) (lenOf pd_2___C_V rfl) rfl (by show 2 * 0 + _ ≤ _; exact Nat.le_of_eq rfl) (hb hby d2_11) (fun _ _ => ⟨rfl, e5, (by decide : 2 + 2 ≤ _), (by decide : 4 + 4 ≤ _)⟩)
  dsimp only [Pt.U, Pt.locs, Pt.cells, Pt.slots] at X12 l12 y12 z12 st12 hQ12 hS12 hg12
  subst l12 y12 z12
  have hZ : Z.Warmed39 (s.setVm T12.vm).vm := State.Warmed39.trans hZ hS12.1
  have hown : (s.setVm T12.vm).vm.findClass "com/example/heirloom_archive/heirloomarchive/model/TextIsWhiteSpacePinLaw" = some m.cls := (hS12.1.alike.findClass _ _).trans hown
  obtain ⟨rfl, Nq12, Kq12, Eq12, Cq12, t12, kt12, Fq12, Aq12⟩ := hQ12
  obtain ⟨h12, eh12⟩ : ∃ h, T12.heap = h := ⟨_, rfl⟩
  rw [eh12] at Kq12 Eq12 Cq12 Fq12 Aq12
  have f13 := f6.keep Kq12 (allS g_b1 all0)
  have f14 := f7.keep Kq12
  have f15 := V5.keep Kq12 (ninS (Ne.symm ne_b1_b5) nin0)
  have z16 : n0 ≤ h12.size := Nat.le_trans z10 Kq12.1
  have K17 : Keep h0 h12 [] := K11.trans Kq12 (allS (Or.inr sz_b1) all0)
  have hk12 : T12.heap.size ≤ h12.size := Nat.le_of_eq (by rw [eh12])
  have N12 := Fr.app N0 Nq12
  refine Goes.on (B := T12.setTop (mkF m 14 #[.val (.int (0 : Int32)), .val (.int c0), .val (.int c1), .val (.int c2), .val (.int c3)] [(.ref b1)])) (fun t k => st12.trans k) ?_
  obtain ⟨fs, hr, hrun, hended, hend⟩ := X12.leaveW hS12 (by rw [eh12]; first | exact hk12 | exact Nat.le_refl _) (v := some (.ref b1)) (fun h => by rw [Bd.returns] at h; cases h)
  exact Goes.leaf (own_retR X12 hx Bd.returns rfl rfl (hb hby d2_14) hr) hrun hended ⟨_, _, rfl, by show Qk0 Z c0 c1 c2 c3 GA GB h0 n0 _ T12.heap _; rw [eh12]; exact ⟨b1, rfl, N12, K17, g_b1, Eq12, t12, _, Fq12, Cq12, Aq12, fun q hq => nomatch hq⟩, hend.1, hend.2.1, hend.2.2.1, hend.2.2.2.mono (by decide) (by decide)⟩
def own_e (v : Int32) (x : Int32) : Int32 := (if v = (0 : Int32) then (0 : Int32) else x)
theorem own_n {q nn : Int32} (h : ((q &&& (2147483647 : Int32)) % (5 : Int32)) = nn) : nn = (0 : Int32) ∨ nn = (1 : Int32) ∨ nn = (2 : Int32) ∨ nn = (3 : Int32) ∨ nn = (4 : Int32) := by
  have e1 : (q &&& (2147483647 : Int32)).toInt = q.toInt % 2 ^ 31 := Jvm.Kit.i32_mask q 2147483647 (k := 31) (by decide) (by decide)
  have e2 : nn.toInt = (q &&& (2147483647 : Int32)).toInt % 5 := by rw [← h]; exact Jvm.Kit.i32_rem_nonneg (by omega)
  simp only [← Int32.toInt_inj]
  have a0 : (0 : Int32).toInt = 0 := rfl
  have a1 : (1 : Int32).toInt = 1 := rfl
  have a2 : (2 : Int32).toInt = 2 := rfl
  have a3 : (3 : Int32).toInt = 3 := rfl
  have a4 : (4 : Int32).toInt = 4 := rfl
  omega
theorem own_law0  : own_iw0  = (1 : Int32) := by
  rfl
theorem own_law1 (c0 : Int32) : own_iw1 c0 = (own_e (own_xs c0) (1 : Int32)) := by
  unfold own_iw1 own_e
  simp only [own_xw]
  repeat' split
  all_goals first | rfl | simp_all
theorem own_law2 (c0 c1 : Int32) : own_iw2 c0 c1 = (own_e (own_xs c1) (own_e (own_xs c0) (1 : Int32))) := by
  unfold own_iw2 own_e
  simp only [own_xw]
  repeat' split
  all_goals first | rfl | simp_all
theorem own_law3 (c0 c1 c2 : Int32) : own_iw3 c0 c1 c2 = (own_e (own_xs c2) (own_e (own_xs c1) (own_e (own_xs c0) (1 : Int32)))) := by
  unfold own_iw3 own_e
  simp only [own_xw]
  repeat' split
  all_goals first | rfl | simp_all
theorem own_law4 (c0 c1 c2 c3 : Int32) : own_iw4 c0 c1 c2 c3 = (own_e (own_xs c3) (own_e (own_xs c2) (own_e (own_xs c1) (own_e (own_xs c0) (1 : Int32))))) := by
  unfold own_iw4 own_e
  simp only [own_xw]
  repeat' split
  all_goals first | rfl | simp_all
theorem own_eI {args : Array Value} {s : State} {t : Term} {k : Int32} (h : (Jvm.Cond.eq t (Term.int k)).value args s none s [] = some true) : t.eval args s none [] s = some (.int k) := by
  obtain ⟨x, y, h1, h2, h3, h4⟩ := cmp_v (Or.inl h)
  have e : y = .int k := Option.some.inj (h2.symm.trans rfl)
  subst e
  obtain ⟨z, rfl⟩ : ∃ z, x = .int z := h4
  have q : z = k := gotT (Cond.eq_ints h1 h2) h
  rw [h1, q]
theorem pn_0 : plainName "com/example/heirloom_archive/heirloomarchive/model/TextIsWhiteSpacePinLaw" = true := by first | (simp [plainName, overriddenIn]; done) | decide +kernel
theorem pd_0__I_C : parseMethodDescriptor "(I)C" = some ⟨[.int], some .char⟩ := by decide +kernel
theorem pd_0__ICCCC_Ljava_lang_String_ : parseMethodDescriptor "(ICCCC)Ljava/lang/String;" = some ⟨[.int, .char, .char, .char, .char], some (.object "java/lang/String")⟩ := by decide +kernel
theorem pd_0__Ljava_lang_CharSequence__Z : parseMethodDescriptor "(Ljava/lang/CharSequence;)Z" = some ⟨[(.object "java/lang/CharSequence")], some .boolean⟩ := by decide +kernel
theorem pd_0__C_Z : parseMethodDescriptor "(C)Z" = some ⟨[.char], some .boolean⟩ := by decide +kernel
theorem ef_0 (m : MethodId) (x0 : Int32) (x1 : Int32) (x2 : Int32) (x3 : Int32) (x4 : Int32) : entryFrame m #[(.int x0), (.int x1), (.int x2), (.int x3), (.int x4)] maxLocals = mkF m 0 #[.val (.int x0), .val (.int x1), .val (.int x2), .val (.int x3), .val (.int x4), .unset, .unset, .unset, .unset, .unset, .unset, .unset] [] := by first | (simp [entryFrame, mkF, argsToLocals, Value.category, maxLocals]; done) | rfl
def Q0 (Z : State) (p0 : Int32) (p1 : Int32) (p2 : Int32) (p3 : Int32) (p4 : Int32) (GA : Int32) (GB : Value) (h0 : Heap) (n0 : Nat) (v : Option Value) (h : Heap) (L : List Loc) : Prop := v = some (.int 1) ∧ Fr n0 L
set_option maxRecDepth 65536 in
set_option maxHeartbeats 40000000 in
theorem rm0 (l : Launch) (Z : State) (a0 : Array Value) (hw : ∀ d ∈ tables_1, d.before a0 Z = true) (ws : List Jvm.Cond) (p0 : Int32) (p1 : Int32) (p2 : Int32) (p3 : Int32) (p4 : Int32) (GA : Int32) (GB : Value) (h0 : Heap) (n0 : Nat) (Z0 : n0 ≤ h0.size) (SS : own_St Z GA GB) (X00 : Old Z n0 h0) (hcw : Jvm.Lit.compactW.before a0 Z = true) (hheld : Jvm.Lit.constHeld Z "java/lang/String" 7) :
    MetFree l x (head1 (Jvm.Cond.code x code maxLocals ret :: ws) room_1) (fun aa U => aa = #[(.int p0), (.int p1), (.int p2), (.int p3), (.int p4)] ∧ Z.Warmed39 U.vm ∧ U.heap = h0 ∧ U.vm.interned = Z.vm.interned) (fun _ _ _ _ _ => True) (fun _ U oo U' => ∃ vv LL, oo = .returned vv ∧ Q0 Z p0 p1 p2 p3 p4 GA GB h0 n0 vv U'.heap LL ∧ ReturnedEndW U oo U' LL room_1.cells room_1.slots) := by
  refine MetFree.of_bodySF (plainFor_of_name pn_0) hisR ?_
  intro p e s m args below meth c s₁ Bd hml0 hP hK
  obtain ⟨rfl, hZ, hh, hI⟩ := hP
  have hx := Bd.exec
  have hby := Bd.bytes
  have hml : c.maxLocals = 12 := hml0
  have hown : s.vm.findClass "com/example/heirloom_archive/heirloomarchive/model/TextIsWhiteSpacePinLaw" = some m.cls := findClass_of_methodNamed Bd.named
  have hnm := (name_of_methodNamed Bd.named Bd.method).1
  have X0 : Stand p l e room_1 s m #[(.int p0), (.int p1), (.int p2), (.int p3), (.int p4)] below meth c s₁ [] 0 0 := Stand.of_body Bd
  have e0 : s₁.heap = h0 := by rw [← hh, Bd.state]; rfl
  have N0 := Fr.nil n0
  show Goes p e below _ (s₁.setTop (entryFrame m #[(.int p0), (.int p1), (.int p2), (.int p3), (.int p4)] maxLocals))
  refine Goes.on (B := s₁.setTop (mkF m 0 #[.val (.int p0), .val (.int p1), .val (.int p2), .val (.int p3), .val (.int p4), .unset, .unset, .unset, .unset, .unset, .unset, .unset] [])) (fun t k => castTop (ef_0 m p0 p1 p2 p3 p4) k) ?_
  refine Goes.on (B := s₁.setTop (mkF m 6 #[.val (.int p0), .val (.int p1), .val (.int p2), .val (.int p3), .val (.int p4), .unset, .unset, .unset, .unset, .unset, .unset, .unset] [(.int ((p0 &&& (2147483647 : Int32)) % (5 : Int32)))])) (fun _ k => XS.iloadN X0.here hx rfl (hb hby at_0) rfl  (X0.ldcInt hx hown (mvT hZ (hw _ (om 0 rfl))) (g := (mkF m 1 #[.val (.int p0), .val (.int p1), .val (.int p2), .val (.int p3), .val (.int p4), .unset, .unset, .unset, .unset, .unset, .unset, .unset] [(.int p0)])) rfl (hb hby at_1) _ (XS.iand X0.here hx rfl (hb hby at_3) rfl (XS.iconst X0.here hx rfl (hb hby at_4) (iremM X0 hx rfl (hb hby at_5) rfl (by decide) k))))) ?_
  generalize hln : ((p0 &&& (2147483647 : Int32)) % (5 : Int32)) = ln
  refine Goes.on (B := s₁.setTop (mkF m 9 #[.val (.int p0), .val (.int p1), .val (.int p2), .val (.int p3), .val (.int p4), .val (.int ln), .unset, .unset, .unset, .unset, .unset, .unset] [(.int p1)])) (fun _ k => XS.istore X0.here hx rfl (hb hby at_6) rfl (l' := #[.val (.int p0), .val (.int p1), .val (.int p2), .val (.int p3), .val (.int p4), .val (.int ln), .unset, .unset, .unset, .unset, .unset, .unset]) rfl (XS.iloadN X0.here hx rfl (hb hby at_8) rfl  k)) ?_
  obtain ⟨_, _, ⟨T1, L1, k1, n1⟩, -, X1, ⟨Lc1, hQ1, l1, y1, z1⟩, st1⟩ := Jvm.LawKit.callS X0 hx (y := (⟨"com/example/heirloom_archive/heirloomarchive/model/TextIsWhiteSpacePinLaw", "pick", "(I)C"⟩ : MethodName)) hown (mvT hZ (hw _ (om 1 rfl))) (mvT hZ (hw _ (om 2 rfl))) (mvT hZ (hw _ (om 3 rfl))) (mvT hZ (hw _ (om 4 rfl))) (by decide) (backOf (W := 0) (rmpk l Z a0 hw [] p1 h0 n0 Z0) hZ (hw _ (om 4 rfl)) (hw _ (om 3 rfl)) (by decide) (by decide)) (g := (mkF m 9 #[.val (.int p0), .val (.int p1), .val (.int p2), .val (.int p3), .val (.int p4), .val (.int ln), .unset, .unset, .unset, .unset, .unset, .unset] [(.int p1)])) rfl (by rw [hml]; rfl) (argsL := [(.int p1)]) (rest := []) (lenOf pd_0__I_C rfl) rfl (by show 2 * 0 + _ ≤ _; exact Nat.le_of_eq rfl) (hb hby at_9) (fun _ _ => ⟨rfl, e0, (by decide : 0 + 0 ≤ _), (by decide : 0 + 0 ≤ _)⟩)
  dsimp only [Pt.U, Pt.locs, Pt.cells, Pt.slots] at X1 l1 y1 z1 st1 hQ1
  subst l1 y1 z1
  obtain ⟨rfl, Nq1, eh1⟩ := hQ1
  have N1 := Fr.app N0 Nq1
  refine Goes.on (B := T1.setTop (mkF m 12 #[.val (.int p0), .val (.int p1), .val (.int p2), .val (.int p3), .val (.int p4), .val (.int ln), .unset, .unset, .unset, .unset, .unset, .unset] [(.int (own_pick p1))])) (fun t k => st1 t k) ?_
  generalize hc0 : (own_pick p1) = c0
  refine Goes.on (B := T1.setTop (mkF m 15 #[.val (.int p0), .val (.int p1), .val (.int p2), .val (.int p3), .val (.int p4), .val (.int ln), .val (.int c0), .unset, .unset, .unset, .unset, .unset] [(.int p2)])) (fun _ k => XS.istore X1.here hx rfl (hb hby at_12) rfl (l' := #[.val (.int p0), .val (.int p1), .val (.int p2), .val (.int p3), .val (.int p4), .val (.int ln), .val (.int c0), .unset, .unset, .unset, .unset, .unset]) rfl (XS.iloadN X1.here hx rfl (hb hby at_14) rfl  k)) ?_
  obtain ⟨_, _, ⟨T2, L2, k2, n2⟩, -, X2, ⟨Lc2, hQ2, l2, y2, z2⟩, st2⟩ := Jvm.LawKit.callS X1 hx (y := (⟨"com/example/heirloom_archive/heirloomarchive/model/TextIsWhiteSpacePinLaw", "pick", "(I)C"⟩ : MethodName)) hown (mvT hZ (hw _ (om 1 rfl))) (mvT hZ (hw _ (om 2 rfl))) (mvT hZ (hw _ (om 3 rfl))) (mvT hZ (hw _ (om 4 rfl))) (by decide) (backOf (W := 0) (rmpk l Z a0 hw [] p2 h0 n0 Z0) hZ (hw _ (om 4 rfl)) (hw _ (om 3 rfl)) (by decide) (by decide)) (g := (mkF m 15 #[.val (.int p0), .val (.int p1), .val (.int p2), .val (.int p3), .val (.int p4), .val (.int ln), .val (.int c0), .unset, .unset, .unset, .unset, .unset] [(.int p2)])) rfl (by rw [hml]; rfl) (argsL := [(.int p2)]) (rest := []) (lenOf pd_0__I_C rfl) rfl (by show 2 * 0 + _ ≤ _; exact Nat.le_of_eq rfl) (hb hby at_15) (fun _ _ => ⟨rfl, eh1, (by decide : 0 + 0 ≤ _), (by decide : 0 + 0 ≤ _)⟩)
  dsimp only [Pt.U, Pt.locs, Pt.cells, Pt.slots] at X2 l2 y2 z2 st2 hQ2
  subst l2 y2 z2
  obtain ⟨rfl, Nq2, eh2⟩ := hQ2
  have N2 := Fr.app N1 Nq2
  refine Goes.on (B := T2.setTop (mkF m 18 #[.val (.int p0), .val (.int p1), .val (.int p2), .val (.int p3), .val (.int p4), .val (.int ln), .val (.int c0), .unset, .unset, .unset, .unset, .unset] [(.int (own_pick p2))])) (fun t k => st2 t k) ?_
  generalize hc1 : (own_pick p2) = c1
  refine Goes.on (B := T2.setTop (mkF m 21 #[.val (.int p0), .val (.int p1), .val (.int p2), .val (.int p3), .val (.int p4), .val (.int ln), .val (.int c0), .val (.int c1), .unset, .unset, .unset, .unset] [(.int p3)])) (fun _ k => XS.istore X2.here hx rfl (hb hby at_18) rfl (l' := #[.val (.int p0), .val (.int p1), .val (.int p2), .val (.int p3), .val (.int p4), .val (.int ln), .val (.int c0), .val (.int c1), .unset, .unset, .unset, .unset]) rfl (XS.iloadN X2.here hx rfl (hb hby at_20) rfl  k)) ?_
  obtain ⟨_, _, ⟨T3, L3, k3, n3⟩, -, X3, ⟨Lc3, hQ3, l3, y3, z3⟩, st3⟩ := Jvm.LawKit.callS X2 hx (y := (⟨"com/example/heirloom_archive/heirloomarchive/model/TextIsWhiteSpacePinLaw", "pick", "(I)C"⟩ : MethodName)) hown (mvT hZ (hw _ (om 1 rfl))) (mvT hZ (hw _ (om 2 rfl))) (mvT hZ (hw _ (om 3 rfl))) (mvT hZ (hw _ (om 4 rfl))) (by decide) (backOf (W := 0) (rmpk l Z a0 hw [] p3 h0 n0 Z0) hZ (hw _ (om 4 rfl)) (hw _ (om 3 rfl)) (by decide) (by decide)) (g := (mkF m 21 #[.val (.int p0), .val (.int p1), .val (.int p2), .val (.int p3), .val (.int p4), .val (.int ln), .val (.int c0), .val (.int c1), .unset, .unset, .unset, .unset] [(.int p3)])) rfl (by rw [hml]; rfl) (argsL := [(.int p3)]) (rest := []) (lenOf pd_0__I_C rfl) rfl (by show 2 * 0 + _ ≤ _; exact Nat.le_of_eq rfl) (hb hby at_21) (fun _ _ => ⟨rfl, eh2, (by decide : 0 + 0 ≤ _), (by decide : 0 + 0 ≤ _)⟩)
  dsimp only [Pt.U, Pt.locs, Pt.cells, Pt.slots] at X3 l3 y3 z3 st3 hQ3
  subst l3 y3 z3
  obtain ⟨rfl, Nq3, eh3⟩ := hQ3
  have N3 := Fr.app N2 Nq3
  refine Goes.on (B := T3.setTop (mkF m 24 #[.val (.int p0), .val (.int p1), .val (.int p2), .val (.int p3), .val (.int p4), .val (.int ln), .val (.int c0), .val (.int c1), .unset, .unset, .unset, .unset] [(.int (own_pick p3))])) (fun t k => st3 t k) ?_
  generalize hc2 : (own_pick p3) = c2
  refine Goes.on (B := T3.setTop (mkF m 28 #[.val (.int p0), .val (.int p1), .val (.int p2), .val (.int p3), .val (.int p4), .val (.int ln), .val (.int c0), .val (.int c1), .val (.int c2), .unset, .unset, .unset] [(.int p4)])) (fun _ k => XS.istore X3.here hx rfl (hb hby at_24) rfl (l' := #[.val (.int p0), .val (.int p1), .val (.int p2), .val (.int p3), .val (.int p4), .val (.int ln), .val (.int c0), .val (.int c1), .val (.int c2), .unset, .unset, .unset]) rfl (XS.iload X3.here hx rfl (hb hby at_26) rfl  k)) ?_
  obtain ⟨_, _, ⟨T4, L4, k4, n4⟩, -, X4, ⟨Lc4, hQ4, l4, y4, z4⟩, st4⟩ := Jvm.LawKit.callS X3 hx (y := (⟨"com/example/heirloom_archive/heirloomarchive/model/TextIsWhiteSpacePinLaw", "pick", "(I)C"⟩ : MethodName)) hown (mvT hZ (hw _ (om 1 rfl))) (mvT hZ (hw _ (om 2 rfl))) (mvT hZ (hw _ (om 3 rfl))) (mvT hZ (hw _ (om 4 rfl))) (by decide) (backOf (W := 0) (rmpk l Z a0 hw [] p4 h0 n0 Z0) hZ (hw _ (om 4 rfl)) (hw _ (om 3 rfl)) (by decide) (by decide)) (g := (mkF m 28 #[.val (.int p0), .val (.int p1), .val (.int p2), .val (.int p3), .val (.int p4), .val (.int ln), .val (.int c0), .val (.int c1), .val (.int c2), .unset, .unset, .unset] [(.int p4)])) rfl (by rw [hml]; rfl) (argsL := [(.int p4)]) (rest := []) (lenOf pd_0__I_C rfl) rfl (by show 2 * 0 + _ ≤ _; exact Nat.le_of_eq rfl) (hb hby at_28) (fun _ _ => ⟨rfl, eh3, (by decide : 0 + 0 ≤ _), (by decide : 0 + 0 ≤ _)⟩)
  dsimp only [Pt.U, Pt.locs, Pt.cells, Pt.slots] at X4 l4 y4 z4 st4 hQ4
  subst l4 y4 z4
  obtain ⟨rfl, Nq4, eh4⟩ := hQ4
  have N4 := Fr.app N3 Nq4
  refine Goes.on (B := T4.setTop (mkF m 31 #[.val (.int p0), .val (.int p1), .val (.int p2), .val (.int p3), .val (.int p4), .val (.int ln), .val (.int c0), .val (.int c1), .val (.int c2), .unset, .unset, .unset] [(.int (own_pick p4))])) (fun t k => st4 t k) ?_
  generalize hc3 : (own_pick p4) = c3
  refine Goes.on (B := T4.setTop (mkF m 33 #[.val (.int p0), .val (.int p1), .val (.int p2), .val (.int p3), .val (.int p4), .val (.int ln), .val (.int c0), .val (.int c1), .val (.int c2), .val (.int c3), .unset, .unset] [])) (fun _ k => XS.istore X4.here hx rfl (hb hby at_31) rfl (l' := #[.val (.int p0), .val (.int p1), .val (.int p2), .val (.int p3), .val (.int p4), .val (.int ln), .val (.int c0), .val (.int c1), .val (.int c2), .val (.int c3), .unset, .unset]) rfl k) ?_
  have r0 : own_rg c0 := by rw [← hc0]; exact own_pick_rg _
  have r1 : own_rg c1 := by rw [← hc1]; exact own_pick_rg _
  have r2 : own_rg c2 := by rw [← hc2]; exact own_pick_rg _
  have r3 : own_rg c3 := by rw [← hc3]; exact own_pick_rg _
  rcases own_n hln with rfl | rfl | rfl | rfl | rfl
  · refine Goes.on (B := T4.setTop (mkF m 43 #[.val (.int p0), .val (.int p1), .val (.int p2), .val (.int p3), .val (.int p4), .val (.int (0 : Int32)), .val (.int c0), .val (.int c1), .val (.int c2), .val (.int c3), .unset, .unset] [(.int c3), (.int c2), (.int c1), (.int c0), (.int (0 : Int32))])) (fun _ k => XS.iload X4.here hx rfl (hb hby at_33) rfl  (XS.iload X4.here hx rfl (hb hby at_35) rfl  (XS.iload X4.here hx rfl (hb hby at_37) rfl  (XS.iload X4.here hx rfl (hb hby at_39) rfl  (XS.iload X4.here hx rfl (hb hby at_41) rfl  k))))) ?_
    obtain ⟨_, _, ⟨T5, L5, k5, n5⟩, -, X5, hS5, hg5, ⟨Lc5, hQ5, l5, y5, z5⟩, st5⟩ := callSS X4 hx (y := (⟨"com/example/heirloom_archive/heirloomarchive/model/TextIsWhiteSpacePinLaw", "make", "(ICCCC)Ljava/lang/String;"⟩ : MethodName)) hown (mvT hZ (hw _ (om 5 rfl))) (mvT hZ (hw _ (om 6 rfl))) (mvT hZ (hw _ (om 3 rfl))) (mvT hZ (hw _ (om 7 rfl))) (by decide) (own_backOfS (W := 0) (rmk0 l Z a0 hw [] c0 c1 c2 c3 GA GB h0 n0 Z0 SS X00 hcw hheld) hZ hI (hw _ (om 7 rfl)) (hw _ (om 3 rfl)) (by decide) (by decide)) (g := (mkF m 43 #[.val (.int p0), .val (.int p1), .val (.int p2), .val (.int p3), .val (.int p4), .val (.int (0 : Int32)), .val (.int c0), .val (.int c1), .val (.int c2), .val (.int c3), .unset, .unset] [(.int c3), (.int c2), (.int c1), (.int c0), (.int (0 : Int32))])) rfl (by rw [hml]; rfl) (argsL := [(.int (0 : Int32)), (.int c0), (.int c1), (.int c2), (.int c3)]) (rest := []) (lenOf pd_0__ICCCC_Ljava_lang_String_ rfl) rfl (by show 2 * 0 + _ ≤ _; exact Nat.le_of_eq rfl) (hb hby at_43) (fun _ _ => ⟨rfl, eh4, (by decide : 0 + 4 ≤ _), (by decide : 0 + 8 ≤ _)⟩)
    dsimp only [Pt.U, Pt.locs, Pt.cells, Pt.slots] at X5 l5 y5 z5 st5 hQ5 hS5 hg5
    subst l5 y5 z5
    have hZ : Z.Warmed39 (s.setVm T5.vm).vm := State.Warmed39.trans hZ hS5.1
    have hown : (s.setVm T5.vm).vm.findClass "com/example/heirloom_archive/heirloomarchive/model/TextIsWhiteSpacePinLaw" = some m.cls := (hS5.1.alike.findClass _ _).trans hown
    obtain ⟨x5, rfl, Nq5, Kq5, -, Eq5, t5, kt5, Fq5, Cq5, Aq5, -⟩ := hQ5
    obtain ⟨h5, eh5⟩ : ∃ h, T5.heap = h := ⟨_, rfl⟩
    rw [eh5] at Kq5 Eq5 Cq5 Fq5 Aq5
    have f6 := X00.keep Kq5 (all0)
    have z7 : n0 ≤ h5.size := Nat.le_trans Z0 Kq5.1
    have hk5 : T5.heap.size ≤ h5.size := Nat.le_of_eq (by rw [eh5])
    have N5 := Fr.app N4 Nq5
    refine Goes.on (B := T5.setTop (mkF m 46 #[.val (.int p0), .val (.int p1), .val (.int p2), .val (.int p3), .val (.int p4), .val (.int (0 : Int32)), .val (.int c0), .val (.int c1), .val (.int c2), .val (.int c3), .unset, .unset] [(.ref x5)])) (fun t k => st5.trans k) ?_
    refine Goes.on (B := T5.setTop (mkF m 84 #[.val (.int p0), .val (.int p1), .val (.int p2), .val (.int p3), .val (.int p4), .val (.int (0 : Int32)), .val (.int c0), .val (.int c1), .val (.int c2), .val (.int c3), .val (.ref x5), .val (.int (1 : Int32))] [])) (fun _ k => XS.astore X5.here hx rfl (hb hby at_46) rfl rfl (l' := #[.val (.int p0), .val (.int p1), .val (.int p2), .val (.int p3), .val (.int p4), .val (.int (0 : Int32)), .val (.int c0), .val (.int c1), .val (.int c2), .val (.int c3), .val (.ref x5), .unset]) rfl (XS.iconst X5.here hx rfl (hb hby at_48) (XS.istore X5.here hx rfl (hb hby at_49) rfl (l' := #[.val (.int p0), .val (.int p1), .val (.int p2), .val (.int p3), .val (.int p4), .val (.int (0 : Int32)), .val (.int c0), .val (.int c1), .val (.int c2), .val (.int c3), .val (.ref x5), .val (.int (1 : Int32))]) rfl (XS.iload X5.here hx rfl (hb hby at_51) rfl  (XS.ifYes X5.here hx rfl (pc0 := 53) (pc' := 67) rfl (hb hby at_53) rfl ((if0 _ _).trans (flt (by decide)).2.2.2) (by decide) (by decide) (XS.iload X5.here hx rfl (hb hby at_67) rfl  (XS.iconst X5.here hx rfl (hb hby at_69) (XS.icmpYes X5.here hx rfl (pc0 := 70) (pc' := 84) rfl (hb hby at_70) rfl (flt (by decide)).2.2.2 (by decide) (by decide) k)))))))) ?_
    refine Goes.on (B := T5.setTop (mkF m 120 #[.val (.int p0), .val (.int p1), .val (.int p2), .val (.int p3), .val (.int p4), .val (.int (0 : Int32)), .val (.int c0), .val (.int c1), .val (.int c2), .val (.int c3), .val (.ref x5), .val (.int (1 : Int32))] [(.ref x5)])) (fun _ k => XS.iload X5.here hx rfl (hb hby at_84) rfl  (XS.iconst X5.here hx rfl (hb hby at_86) (XS.icmpYes X5.here hx rfl (pc0 := 87) (pc' := 101) rfl (hb hby at_87) rfl (flt (by decide)).2.2.2 (by decide) (by decide) (XS.iload X5.here hx rfl (hb hby at_101) rfl  (XS.iconst X5.here hx rfl (hb hby at_103) (XS.icmpYes X5.here hx rfl (pc0 := 104) (pc' := 118) rfl (hb hby at_104) rfl (flt (by decide)).2.2.2 (by decide) (by decide) (XS.aload X5.here hx rfl (hb hby at_118) rfl rfl  k))))))) ?_
    have hpp : ∀ q ∈ ([] : List Int32), ¬ q < 0 ∧ ¬ (255 : Int32) < q := fun q hq => nomatch hq
    have HL : own_BL l Z h5 n0 (⟨"java/lang/String", "length", "()I"⟩ : MethodName) #[.ref x5] (0 : Int32) := own_HL l Z a0 hw x5 t5 kt5 GA GB h5 n0 SS f6 Eq5 Cq5 Fq5 ([] : List Int32) (by first | decide | (simp only [List.length_cons, List.length_nil]; decide)) Aq5 hpp
    obtain ⟨_, _, ⟨T8, L8, k8, n8⟩, -, X8, ⟨Lc8, hQ8, l8, y8, z8⟩, st8⟩ := Jvm.LawKit.callS X5 hx (y := (⟨"com/example/heirloom_archive/heirloomarchive/model/Text", "isWhiteSpace", "(Ljava/lang/CharSequence;)Z"⟩ : MethodName)) hown (mvT hZ (hw _ (om 30 rfl))) (mvT hZ (hw _ (om 31 rfl))) (mvT hZ (hw _ (om 32 rfl))) (mvT hZ (hw _ (om 33 rfl))) (by decide) (backOf (W := 0) (rmiw0 l Z a0 hw [] x5  h5 n0 z7 Eq5 HL ) hZ (hw _ (om 33 rfl)) (hw _ (om 32 rfl)) (by decide) (by decide)) (g := (mkF m 120 #[.val (.int p0), .val (.int p1), .val (.int p2), .val (.int p3), .val (.int p4), .val (.int (0 : Int32)), .val (.int c0), .val (.int c1), .val (.int c2), .val (.int c3), .val (.ref x5), .val (.int (1 : Int32))] [(.ref x5)])) rfl (by rw [hml]; rfl) (argsL := [(.ref x5)]) (rest := []) (lenOf pd_0__Ljava_lang_CharSequence__Z rfl) rfl (by show 2 * 0 + _ ≤ _; exact Nat.le_of_eq rfl) (hb hby at_120) (fun _ _ => ⟨rfl, eh5, (by decide : 4 + 0 ≤ _), (by decide : 8 + 0 ≤ _)⟩)
    dsimp only [Pt.U, Pt.locs, Pt.cells, Pt.slots] at X8 l8 y8 z8 st8 hQ8
    subst l8 y8 z8
    obtain ⟨rfl, Nq8, eh8⟩ := hQ8
    have N8 := Fr.app N5 Nq8
    refine Goes.on (B := T8.setTop (mkF m 123 #[.val (.int p0), .val (.int p1), .val (.int p2), .val (.int p3), .val (.int p4), .val (.int (0 : Int32)), .val (.int c0), .val (.int c1), .val (.int c2), .val (.int c3), .val (.ref x5), .val (.int (1 : Int32))] [(.int own_iw0)])) (fun t k => st8 t k) ?_
    refine Goes.on (B := T8.setTop (mkF m 133 #[.val (.int p0), .val (.int p1), .val (.int p2), .val (.int p3), .val (.int p4), .val (.int (0 : Int32)), .val (.int c0), .val (.int c1), .val (.int c2), .val (.int c3), .val (.ref x5), .val (.int (1 : Int32))] [(.int (1 : Int32))])) (fun _ k => XS.iload X8.here hx rfl (hb hby at_123) rfl  (XS.icmpNo X8.here hx rfl (hb hby at_125) rfl (teq (own_law0 )).2 (XS.iconst X8.here hx rfl (hb hby at_128) (XS.goto X8.here hx rfl (pc0 := 129) (pc' := 133) rfl (hb hby at_129) (by decide) (by decide) k)))) ?_
    obtain ⟨fs, hr, hrun, hended, hend⟩ := X8.leaveW hS5 (by rw [eh8]; first | exact hk5 | exact Nat.le_refl _) (v := some (.int (1 : Int32))) (fun h => by rw [Bd.returns] at h; cases h)
    exact Goes.leaf (retN X8 hx (t := .boolean) Bd.returns (by simp) (hb hby at_133) hr) hrun hended ⟨_, _, rfl, by show Q0 Z p0 p1 p2 p3 p4 GA GB h0 n0 _ T8.heap _; exact ⟨rfl, N8⟩, hend.1, hend.2.1, hend.2.2.1, hend.2.2.2.mono (by decide) (by decide)⟩
  · refine Goes.on (B := T4.setTop (mkF m 43 #[.val (.int p0), .val (.int p1), .val (.int p2), .val (.int p3), .val (.int p4), .val (.int (1 : Int32)), .val (.int c0), .val (.int c1), .val (.int c2), .val (.int c3), .unset, .unset] [(.int c3), (.int c2), (.int c1), (.int c0), (.int (1 : Int32))])) (fun _ k => XS.iload X4.here hx rfl (hb hby at_33) rfl  (XS.iload X4.here hx rfl (hb hby at_35) rfl  (XS.iload X4.here hx rfl (hb hby at_37) rfl  (XS.iload X4.here hx rfl (hb hby at_39) rfl  (XS.iload X4.here hx rfl (hb hby at_41) rfl  k))))) ?_
    obtain ⟨_, _, ⟨T9, L9, k9, n9⟩, -, X9, ⟨Lc9, hQ9, l9, y9, z9⟩, st9⟩ := Jvm.LawKit.callS X4 hx (y := (⟨"com/example/heirloom_archive/heirloomarchive/model/TextIsWhiteSpacePinLaw", "make", "(ICCCC)Ljava/lang/String;"⟩ : MethodName)) hown (mvT hZ (hw _ (om 5 rfl))) (mvT hZ (hw _ (om 6 rfl))) (mvT hZ (hw _ (om 3 rfl))) (mvT hZ (hw _ (om 7 rfl))) (by decide) (backOf (W := 0) (rmk1 l Z a0 hw [] c0 c1 c2 c3 GA GB h0 n0 Z0 SS X00 r0 r1 r2 r3) hZ (hw _ (om 7 rfl)) (hw _ (om 3 rfl)) (by decide) (by decide)) (g := (mkF m 43 #[.val (.int p0), .val (.int p1), .val (.int p2), .val (.int p3), .val (.int p4), .val (.int (1 : Int32)), .val (.int c0), .val (.int c1), .val (.int c2), .val (.int c3), .unset, .unset] [(.int c3), (.int c2), (.int c1), (.int c0), (.int (1 : Int32))])) rfl (by rw [hml]; rfl) (argsL := [(.int (1 : Int32)), (.int c0), (.int c1), (.int c2), (.int c3)]) (rest := []) (lenOf pd_0__ICCCC_Ljava_lang_String_ rfl) rfl (by show 2 * 0 + _ ≤ _; exact Nat.le_of_eq rfl) (hb hby at_43) (fun _ _ => ⟨rfl, eh4, (by decide : 0 + 4 ≤ _), (by decide : 0 + 8 ≤ _)⟩)
    dsimp only [Pt.U, Pt.locs, Pt.cells, Pt.slots] at X9 l9 y9 z9 st9 hQ9
    subst l9 y9 z9
    obtain ⟨x9, rfl, Nq9, Kq9, -, Eq9, t9, kt9, Fq9, Sq9⟩ := hQ9
    obtain ⟨h9, eh9⟩ : ∃ h, T9.heap = h := ⟨_, rfl⟩
    rw [eh9] at Kq9 Eq9 Fq9 Sq9
    have f10 := X00.keep Kq9 (all0)
    have z11 : n0 ≤ h9.size := Nat.le_trans Z0 Kq9.1
    have N9 := Fr.app N4 Nq9
    refine Goes.on (B := T9.setTop (mkF m 46 #[.val (.int p0), .val (.int p1), .val (.int p2), .val (.int p3), .val (.int p4), .val (.int (1 : Int32)), .val (.int c0), .val (.int c1), .val (.int c2), .val (.int c3), .unset, .unset] [(.ref x9)])) (fun t k => st9 t k) ?_
    rcases Sq9 with ⟨Cq9, Aq9, hp⟩ | ⟨Cq9, Aq9⟩
    · refine Goes.on (B := T9.setTop (mkF m 58 #[.val (.int p0), .val (.int p1), .val (.int p2), .val (.int p3), .val (.int p4), .val (.int (1 : Int32)), .val (.int c0), .val (.int c1), .val (.int c2), .val (.int c3), .val (.ref x9), .val (.int (1 : Int32))] [(.int c0)])) (fun _ k => XS.astore X9.here hx rfl (hb hby at_46) rfl rfl (l' := #[.val (.int p0), .val (.int p1), .val (.int p2), .val (.int p3), .val (.int p4), .val (.int (1 : Int32)), .val (.int c0), .val (.int c1), .val (.int c2), .val (.int c3), .val (.ref x9), .unset]) rfl (XS.iconst X9.here hx rfl (hb hby at_48) (XS.istore X9.here hx rfl (hb hby at_49) rfl (l' := #[.val (.int p0), .val (.int p1), .val (.int p2), .val (.int p3), .val (.int p4), .val (.int (1 : Int32)), .val (.int c0), .val (.int c1), .val (.int c2), .val (.int c3), .val (.ref x9), .val (.int (1 : Int32))]) rfl (XS.iload X9.here hx rfl (hb hby at_51) rfl  (XS.ifNo X9.here hx rfl (hb hby at_53) rfl ((if0 _ _).trans (tlt (by decide)).2.2.2) (XS.iload X9.here hx rfl (hb hby at_56) rfl  k)))))) ?_
      obtain ⟨_, _, ⟨T12, L12, k12, n12⟩, -, X12, ⟨Lc12, hQ12, l12, y12, z12⟩, st12⟩ := Jvm.LawKit.callS X9 hx (y := (⟨"com/example/heirloom_archive/heirloomarchive/model/TextIsWhiteSpacePinLaw", "xmlSpace", "(C)Z"⟩ : MethodName)) hown (mvT hZ (hw _ (om 59 rfl))) (mvT hZ (hw _ (om 60 rfl))) (mvT hZ (hw _ (om 3 rfl))) (mvT hZ (hw _ (om 61 rfl))) (by decide) (backOf (W := 0) (rmxs l Z a0 hw [] c0 h9 n0 z11) hZ (hw _ (om 61 rfl)) (hw _ (om 3 rfl)) (by decide) (by decide)) (g := (mkF m 58 #[.val (.int p0), .val (.int p1), .val (.int p2), .val (.int p3), .val (.int p4), .val (.int (1 : Int32)), .val (.int c0), .val (.int c1), .val (.int c2), .val (.int c3), .val (.ref x9), .val (.int (1 : Int32))] [(.int c0)])) rfl (by rw [hml]; rfl) (argsL := [(.int c0)]) (rest := []) (lenOf pd_0__C_Z rfl) rfl (by show 2 * 0 + _ ≤ _; exact Nat.le_of_eq rfl) (hb hby at_58) (fun _ _ => ⟨rfl, eh9, (by decide : 4 + 0 ≤ _), (by decide : 8 + 0 ≤ _)⟩)
      dsimp only [Pt.U, Pt.locs, Pt.cells, Pt.slots] at X12 l12 y12 z12 st12 hQ12
      subst l12 y12 z12
      obtain ⟨rfl, Nq12, eh12⟩ := hQ12
      have N12 := Fr.app N9 Nq12
      refine Goes.on (B := T12.setTop (mkF m 61 #[.val (.int p0), .val (.int p1), .val (.int p2), .val (.int p3), .val (.int p4), .val (.int (1 : Int32)), .val (.int c0), .val (.int c1), .val (.int c2), .val (.int c3), .val (.ref x9), .val (.int (1 : Int32))] [(.int (own_xs c0))])) (fun t k => st12 t k) ?_
      refine Goes.via (B := T12.setTop (mkF m 67 #[.val (.int p0), .val (.int p1), .val (.int p2), .val (.int p3), .val (.int p4), .val (.int (1 : Int32)), .val (.int c0), .val (.int c1), .val (.int c2), .val (.int c3), .val (.ref x9), .val (.int (own_e (own_xs c0) (1 : Int32)))] [])) (fun J13 => ?_) ?_
      · skip
        by_cases hc61_14 : (own_xs c0) = (0 : Int32)
        · refine Goes.on (B := T12.setTop (mkF m 67 #[.val (.int p0), .val (.int p1), .val (.int p2), .val (.int p3), .val (.int p4), .val (.int (1 : Int32)), .val (.int c0), .val (.int c1), .val (.int c2), .val (.int c3), .val (.ref x9), .val (.int (0 : Int32))] [])) (fun _ k => XS.ifNo X12.here hx rfl (hb hby at_61) rfl ((if0 _ _).trans (teq hc61_14).2) (XS.iconst X12.here hx rfl (hb hby at_64) (XS.istore X12.here hx rfl (hb hby at_65) rfl (l' := #[.val (.int p0), .val (.int p1), .val (.int p2), .val (.int p3), .val (.int p4), .val (.int (1 : Int32)), .val (.int c0), .val (.int c1), .val (.int c2), .val (.int c3), .val (.ref x9), .val (.int (0 : Int32))]) rfl k))) ?_
          have hj : (own_e (own_xs c0) (1 : Int32)) = (0 : Int32) := by rw [own_e, if_pos hc61_14]
          rw [hj] at J13; exact J13
        · refine Goes.on (B := T12.setTop (mkF m 67 #[.val (.int p0), .val (.int p1), .val (.int p2), .val (.int p3), .val (.int p4), .val (.int (1 : Int32)), .val (.int c0), .val (.int c1), .val (.int c2), .val (.int c3), .val (.ref x9), .val (.int (1 : Int32))] [])) (fun _ k => XS.ifYes X12.here hx rfl (pc0 := 61) (pc' := 67) rfl (hb hby at_61) rfl ((if0 _ _).trans (feq hc61_14).2) (by decide) (by decide) k) ?_
          have hj : (own_e (own_xs c0) (1 : Int32)) = (1 : Int32) := by rw [own_e, if_neg hc61_14]
          rw [hj] at J13; exact J13
      refine Goes.on (B := T12.setTop (mkF m 104 #[.val (.int p0), .val (.int p1), .val (.int p2), .val (.int p3), .val (.int p4), .val (.int (1 : Int32)), .val (.int c0), .val (.int c1), .val (.int c2), .val (.int c3), .val (.ref x9), .val (.int (own_e (own_xs c0) (1 : Int32)))] [(.int (3 : Int32)), (.int (1 : Int32))])) (fun _ k => XS.iload X12.here hx rfl (hb hby at_67) rfl  (XS.iconst X12.here hx rfl (hb hby at_69) (XS.icmpYes X12.here hx rfl (pc0 := 70) (pc' := 84) rfl (hb hby at_70) rfl (flt (by decide)).2.2.2 (by decide) (by decide) (XS.iload X12.here hx rfl (hb hby at_84) rfl  (XS.iconst X12.here hx rfl (hb hby at_86) (XS.icmpYes X12.here hx rfl (pc0 := 87) (pc' := 101) rfl (hb hby at_87) rfl (flt (by decide)).2.2.2 (by decide) (by decide) (XS.iload X12.here hx rfl (hb hby at_101) rfl  (XS.iconst X12.here hx rfl (hb hby at_103) k)))))))) ?_
      refine Goes.on (B := T12.setTop (mkF m 120 #[.val (.int p0), .val (.int p1), .val (.int p2), .val (.int p3), .val (.int p4), .val (.int (1 : Int32)), .val (.int c0), .val (.int c1), .val (.int c2), .val (.int c3), .val (.ref x9), .val (.int (own_e (own_xs c0) (1 : Int32)))] [(.ref x9)])) (fun _ k => XS.icmpYes X12.here hx rfl (pc0 := 104) (pc' := 118) rfl (hb hby at_104) rfl (flt (by decide)).2.2.2 (by decide) (by decide) (XS.aload X12.here hx rfl (hb hby at_118) rfl rfl  k)) ?_
      have hpp : ∀ q ∈ ([c0] : List Int32), ¬ q < 0 ∧ ¬ (255 : Int32) < q := hp
      have HL : own_BL l Z h9 n0 (⟨"java/lang/String", "length", "()I"⟩ : MethodName) #[.ref x9] (1 : Int32) := own_HL l Z a0 hw x9 t9 kt9 GA GB h9 n0 SS f10 Eq9 Cq9 Fq9 ([c0] : List Int32) (by first | decide | (simp only [List.length_cons, List.length_nil]; decide)) Aq9 hpp
      have HC0 : own_BL l Z h9 n0 (⟨"java/lang/String", "charAt", "(I)C"⟩ : MethodName) #[.ref x9, .int (0 : Int32)] c0 := own_HC l Z a0 hw x9 t9 kt9 0 (0 : Int32) GA GB h9 n0 SS f10 Eq9 Cq9 Fq9 ([c0] : List Int32) (by first | decide | (simp only [List.length_cons, List.length_nil]; decide)) Aq9 hpp (by first | decide | (simp only [List.length_cons, List.length_nil]; decide)) rfl
      obtain ⟨_, _, ⟨T15, L15, k15, n15⟩, -, X15, ⟨Lc15, hQ15, l15, y15, z15⟩, st15⟩ := Jvm.LawKit.callS X12 hx (y := (⟨"com/example/heirloom_archive/heirloomarchive/model/Text", "isWhiteSpace", "(Ljava/lang/CharSequence;)Z"⟩ : MethodName)) hown (mvT hZ (hw _ (om 30 rfl))) (mvT hZ (hw _ (om 31 rfl))) (mvT hZ (hw _ (om 32 rfl))) (mvT hZ (hw _ (om 33 rfl))) (by decide) (backOf (W := 0) (rmiw1 l Z a0 hw [] x9 c0 h9 n0 z11 Eq9 HL HC0) hZ (hw _ (om 33 rfl)) (hw _ (om 32 rfl)) (by decide) (by decide)) (g := (mkF m 120 #[.val (.int p0), .val (.int p1), .val (.int p2), .val (.int p3), .val (.int p4), .val (.int (1 : Int32)), .val (.int c0), .val (.int c1), .val (.int c2), .val (.int c3), .val (.ref x9), .val (.int (own_e (own_xs c0) (1 : Int32)))] [(.ref x9)])) rfl (by rw [hml]; rfl) (argsL := [(.ref x9)]) (rest := []) (lenOf pd_0__Ljava_lang_CharSequence__Z rfl) rfl (by show 2 * 0 + _ ≤ _; exact Nat.le_of_eq rfl) (hb hby at_120) (fun _ _ => ⟨rfl, eh12, (by decide : 4 + 0 ≤ _), (by decide : 8 + 0 ≤ _)⟩)
      dsimp only [Pt.U, Pt.locs, Pt.cells, Pt.slots] at X15 l15 y15 z15 st15 hQ15
      subst l15 y15 z15
      obtain ⟨rfl, Nq15, eh15⟩ := hQ15
      have N15 := Fr.app N12 Nq15
      refine Goes.on (B := T15.setTop (mkF m 123 #[.val (.int p0), .val (.int p1), .val (.int p2), .val (.int p3), .val (.int p4), .val (.int (1 : Int32)), .val (.int c0), .val (.int c1), .val (.int c2), .val (.int c3), .val (.ref x9), .val (.int (own_e (own_xs c0) (1 : Int32)))] [(.int (own_iw1 c0))])) (fun t k => st15 t k) ?_
      refine Goes.on (B := T15.setTop (mkF m 133 #[.val (.int p0), .val (.int p1), .val (.int p2), .val (.int p3), .val (.int p4), .val (.int (1 : Int32)), .val (.int c0), .val (.int c1), .val (.int c2), .val (.int c3), .val (.ref x9), .val (.int (own_e (own_xs c0) (1 : Int32)))] [(.int (1 : Int32))])) (fun _ k => XS.iload X15.here hx rfl (hb hby at_123) rfl  (XS.icmpNo X15.here hx rfl (hb hby at_125) rfl (teq (own_law1 c0)).2 (XS.iconst X15.here hx rfl (hb hby at_128) (XS.goto X15.here hx rfl (pc0 := 129) (pc' := 133) rfl (hb hby at_129) (by decide) (by decide) k)))) ?_
      obtain ⟨fs, hr, hrun, hended, hW, hsame⟩ := X15.leave (v := some (.int (1 : Int32))) (fun h => by rw [Bd.returns] at h; cases h)
      exact Goes.leaf (retN X15 hx (t := .boolean) Bd.returns (by simp) (hb hby at_133) hr) hrun hended ⟨_, _, rfl, by show Q0 Z p0 p1 p2 p3 p4 GA GB h0 n0 _ T15.heap _; exact ⟨rfl, N15⟩, ReturnedEndW.of_narrow ⟨_, rfl⟩ hW (hsame.mono (by decide) (by decide))⟩
    · refine Goes.on (B := T9.setTop (mkF m 58 #[.val (.int p0), .val (.int p1), .val (.int p2), .val (.int p3), .val (.int p4), .val (.int (1 : Int32)), .val (.int c0), .val (.int c1), .val (.int c2), .val (.int c3), .val (.ref x9), .val (.int (1 : Int32))] [(.int c0)])) (fun _ k => XS.astore X9.here hx rfl (hb hby at_46) rfl rfl (l' := #[.val (.int p0), .val (.int p1), .val (.int p2), .val (.int p3), .val (.int p4), .val (.int (1 : Int32)), .val (.int c0), .val (.int c1), .val (.int c2), .val (.int c3), .val (.ref x9), .unset]) rfl (XS.iconst X9.here hx rfl (hb hby at_48) (XS.istore X9.here hx rfl (hb hby at_49) rfl (l' := #[.val (.int p0), .val (.int p1), .val (.int p2), .val (.int p3), .val (.int p4), .val (.int (1 : Int32)), .val (.int c0), .val (.int c1), .val (.int c2), .val (.int c3), .val (.ref x9), .val (.int (1 : Int32))]) rfl (XS.iload X9.here hx rfl (hb hby at_51) rfl  (XS.ifNo X9.here hx rfl (hb hby at_53) rfl ((if0 _ _).trans (tlt (by decide)).2.2.2) (XS.iload X9.here hx rfl (hb hby at_56) rfl  k)))))) ?_
      obtain ⟨_, _, ⟨T16, L16, k16, n16⟩, -, X16, ⟨Lc16, hQ16, l16, y16, z16⟩, st16⟩ := Jvm.LawKit.callS X9 hx (y := (⟨"com/example/heirloom_archive/heirloomarchive/model/TextIsWhiteSpacePinLaw", "xmlSpace", "(C)Z"⟩ : MethodName)) hown (mvT hZ (hw _ (om 59 rfl))) (mvT hZ (hw _ (om 60 rfl))) (mvT hZ (hw _ (om 3 rfl))) (mvT hZ (hw _ (om 61 rfl))) (by decide) (backOf (W := 0) (rmxs l Z a0 hw [] c0 h9 n0 z11) hZ (hw _ (om 61 rfl)) (hw _ (om 3 rfl)) (by decide) (by decide)) (g := (mkF m 58 #[.val (.int p0), .val (.int p1), .val (.int p2), .val (.int p3), .val (.int p4), .val (.int (1 : Int32)), .val (.int c0), .val (.int c1), .val (.int c2), .val (.int c3), .val (.ref x9), .val (.int (1 : Int32))] [(.int c0)])) rfl (by rw [hml]; rfl) (argsL := [(.int c0)]) (rest := []) (lenOf pd_0__C_Z rfl) rfl (by show 2 * 0 + _ ≤ _; exact Nat.le_of_eq rfl) (hb hby at_58) (fun _ _ => ⟨rfl, eh9, (by decide : 4 + 0 ≤ _), (by decide : 8 + 0 ≤ _)⟩)
      dsimp only [Pt.U, Pt.locs, Pt.cells, Pt.slots] at X16 l16 y16 z16 st16 hQ16
      subst l16 y16 z16
      obtain ⟨rfl, Nq16, eh16⟩ := hQ16
      have N16 := Fr.app N9 Nq16
      refine Goes.on (B := T16.setTop (mkF m 61 #[.val (.int p0), .val (.int p1), .val (.int p2), .val (.int p3), .val (.int p4), .val (.int (1 : Int32)), .val (.int c0), .val (.int c1), .val (.int c2), .val (.int c3), .val (.ref x9), .val (.int (1 : Int32))] [(.int (own_xs c0))])) (fun t k => st16 t k) ?_
      refine Goes.via (B := T16.setTop (mkF m 67 #[.val (.int p0), .val (.int p1), .val (.int p2), .val (.int p3), .val (.int p4), .val (.int (1 : Int32)), .val (.int c0), .val (.int c1), .val (.int c2), .val (.int c3), .val (.ref x9), .val (.int (own_e (own_xs c0) (1 : Int32)))] [])) (fun J17 => ?_) ?_
      · skip
        by_cases hc61_18 : (own_xs c0) = (0 : Int32)
        · refine Goes.on (B := T16.setTop (mkF m 67 #[.val (.int p0), .val (.int p1), .val (.int p2), .val (.int p3), .val (.int p4), .val (.int (1 : Int32)), .val (.int c0), .val (.int c1), .val (.int c2), .val (.int c3), .val (.ref x9), .val (.int (0 : Int32))] [])) (fun _ k => XS.ifNo X16.here hx rfl (hb hby at_61) rfl ((if0 _ _).trans (teq hc61_18).2) (XS.iconst X16.here hx rfl (hb hby at_64) (XS.istore X16.here hx rfl (hb hby at_65) rfl (l' := #[.val (.int p0), .val (.int p1), .val (.int p2), .val (.int p3), .val (.int p4), .val (.int (1 : Int32)), .val (.int c0), .val (.int c1), .val (.int c2), .val (.int c3), .val (.ref x9), .val (.int (0 : Int32))]) rfl k))) ?_
          have hj : (own_e (own_xs c0) (1 : Int32)) = (0 : Int32) := by rw [own_e, if_pos hc61_18]
          rw [hj] at J17; exact J17
        · refine Goes.on (B := T16.setTop (mkF m 67 #[.val (.int p0), .val (.int p1), .val (.int p2), .val (.int p3), .val (.int p4), .val (.int (1 : Int32)), .val (.int c0), .val (.int c1), .val (.int c2), .val (.int c3), .val (.ref x9), .val (.int (1 : Int32))] [])) (fun _ k => XS.ifYes X16.here hx rfl (pc0 := 61) (pc' := 67) rfl (hb hby at_61) rfl ((if0 _ _).trans (feq hc61_18).2) (by decide) (by decide) k) ?_
          have hj : (own_e (own_xs c0) (1 : Int32)) = (1 : Int32) := by rw [own_e, if_neg hc61_18]
          rw [hj] at J17; exact J17
      refine Goes.on (B := T16.setTop (mkF m 104 #[.val (.int p0), .val (.int p1), .val (.int p2), .val (.int p3), .val (.int p4), .val (.int (1 : Int32)), .val (.int c0), .val (.int c1), .val (.int c2), .val (.int c3), .val (.ref x9), .val (.int (own_e (own_xs c0) (1 : Int32)))] [(.int (3 : Int32)), (.int (1 : Int32))])) (fun _ k => XS.iload X16.here hx rfl (hb hby at_67) rfl  (XS.iconst X16.here hx rfl (hb hby at_69) (XS.icmpYes X16.here hx rfl (pc0 := 70) (pc' := 84) rfl (hb hby at_70) rfl (flt (by decide)).2.2.2 (by decide) (by decide) (XS.iload X16.here hx rfl (hb hby at_84) rfl  (XS.iconst X16.here hx rfl (hb hby at_86) (XS.icmpYes X16.here hx rfl (pc0 := 87) (pc' := 101) rfl (hb hby at_87) rfl (flt (by decide)).2.2.2 (by decide) (by decide) (XS.iload X16.here hx rfl (hb hby at_101) rfl  (XS.iconst X16.here hx rfl (hb hby at_103) k)))))))) ?_
      refine Goes.on (B := T16.setTop (mkF m 120 #[.val (.int p0), .val (.int p1), .val (.int p2), .val (.int p3), .val (.int p4), .val (.int (1 : Int32)), .val (.int c0), .val (.int c1), .val (.int c2), .val (.int c3), .val (.ref x9), .val (.int (own_e (own_xs c0) (1 : Int32)))] [(.ref x9)])) (fun _ k => XS.icmpYes X16.here hx rfl (pc0 := 104) (pc' := 118) rfl (hb hby at_104) rfl (flt (by decide)).2.2.2 (by decide) (by decide) (XS.aload X16.here hx rfl (hb hby at_118) rfl rfl  k)) ?_
      have HL : own_BL l Z h9 n0 (⟨"java/lang/String", "length", "()I"⟩ : MethodName) #[.ref x9] (1 : Int32) := own_WL l Z a0 hw x9 t9 kt9 (2 : Int32) [(.int (bA c0)), (.int (bB c0))] GA GB h9 n0 z11 SS f10 Eq9 Cq9 Fq9 Aq9
      have HC0 : own_BL l Z h9 n0 (⟨"java/lang/String", "charAt", "(I)C"⟩ : MethodName) #[.ref x9, .int (0 : Int32)] c0 := own_WC l Z a0 hw x9 t9 kt9 (2 : Int32) [(.int (bA c0)), (.int (bB c0))] (0 : Int32) c0 GA GB h9 n0 z11 SS f10 Eq9 Cq9 Fq9 Aq9 ⟨by decide, by decide⟩ ⟨by decide, by decide⟩ rfl rfl r0 (by decide) (by decide)
      obtain ⟨_, _, ⟨T19, L19, k19, n19⟩, -, X19, ⟨Lc19, hQ19, l19, y19, z19⟩, st19⟩ := Jvm.LawKit.callS X16 hx (y := (⟨"com/example/heirloom_archive/heirloomarchive/model/Text", "isWhiteSpace", "(Ljava/lang/CharSequence;)Z"⟩ : MethodName)) hown (mvT hZ (hw _ (om 30 rfl))) (mvT hZ (hw _ (om 31 rfl))) (mvT hZ (hw _ (om 32 rfl))) (mvT hZ (hw _ (om 33 rfl))) (by decide) (backOf (W := 0) (rmiw1 l Z a0 hw [] x9 c0 h9 n0 z11 Eq9 HL HC0) hZ (hw _ (om 33 rfl)) (hw _ (om 32 rfl)) (by decide) (by decide)) (g := (mkF m 120 #[.val (.int p0), .val (.int p1), .val (.int p2), .val (.int p3), .val (.int p4), .val (.int (1 : Int32)), .val (.int c0), .val (.int c1), .val (.int c2), .val (.int c3), .val (.ref x9), .val (.int (own_e (own_xs c0) (1 : Int32)))] [(.ref x9)])) rfl (by rw [hml]; rfl) (argsL := [(.ref x9)]) (rest := []) (lenOf pd_0__Ljava_lang_CharSequence__Z rfl) rfl (by show 2 * 0 + _ ≤ _; exact Nat.le_of_eq rfl) (hb hby at_120) (fun _ _ => ⟨rfl, eh16, (by decide : 4 + 0 ≤ _), (by decide : 8 + 0 ≤ _)⟩)
      dsimp only [Pt.U, Pt.locs, Pt.cells, Pt.slots] at X19 l19 y19 z19 st19 hQ19
      subst l19 y19 z19
      obtain ⟨rfl, Nq19, eh19⟩ := hQ19
      have N19 := Fr.app N16 Nq19
      refine Goes.on (B := T19.setTop (mkF m 123 #[.val (.int p0), .val (.int p1), .val (.int p2), .val (.int p3), .val (.int p4), .val (.int (1 : Int32)), .val (.int c0), .val (.int c1), .val (.int c2), .val (.int c3), .val (.ref x9), .val (.int (own_e (own_xs c0) (1 : Int32)))] [(.int (own_iw1 c0))])) (fun t k => st19 t k) ?_
      refine Goes.on (B := T19.setTop (mkF m 133 #[.val (.int p0), .val (.int p1), .val (.int p2), .val (.int p3), .val (.int p4), .val (.int (1 : Int32)), .val (.int c0), .val (.int c1), .val (.int c2), .val (.int c3), .val (.ref x9), .val (.int (own_e (own_xs c0) (1 : Int32)))] [(.int (1 : Int32))])) (fun _ k => XS.iload X19.here hx rfl (hb hby at_123) rfl  (XS.icmpNo X19.here hx rfl (hb hby at_125) rfl (teq (own_law1 c0)).2 (XS.iconst X19.here hx rfl (hb hby at_128) (XS.goto X19.here hx rfl (pc0 := 129) (pc' := 133) rfl (hb hby at_129) (by decide) (by decide) k)))) ?_
      obtain ⟨fs, hr, hrun, hended, hW, hsame⟩ := X19.leave (v := some (.int (1 : Int32))) (fun h => by rw [Bd.returns] at h; cases h)
      exact Goes.leaf (retN X19 hx (t := .boolean) Bd.returns (by simp) (hb hby at_133) hr) hrun hended ⟨_, _, rfl, by show Q0 Z p0 p1 p2 p3 p4 GA GB h0 n0 _ T19.heap _; exact ⟨rfl, N19⟩, ReturnedEndW.of_narrow ⟨_, rfl⟩ hW (hsame.mono (by decide) (by decide))⟩
  · refine Goes.on (B := T4.setTop (mkF m 43 #[.val (.int p0), .val (.int p1), .val (.int p2), .val (.int p3), .val (.int p4), .val (.int (2 : Int32)), .val (.int c0), .val (.int c1), .val (.int c2), .val (.int c3), .unset, .unset] [(.int c3), (.int c2), (.int c1), (.int c0), (.int (2 : Int32))])) (fun _ k => XS.iload X4.here hx rfl (hb hby at_33) rfl  (XS.iload X4.here hx rfl (hb hby at_35) rfl  (XS.iload X4.here hx rfl (hb hby at_37) rfl  (XS.iload X4.here hx rfl (hb hby at_39) rfl  (XS.iload X4.here hx rfl (hb hby at_41) rfl  k))))) ?_
    obtain ⟨_, _, ⟨T20, L20, k20, n20⟩, -, X20, ⟨Lc20, hQ20, l20, y20, z20⟩, st20⟩ := Jvm.LawKit.callS X4 hx (y := (⟨"com/example/heirloom_archive/heirloomarchive/model/TextIsWhiteSpacePinLaw", "make", "(ICCCC)Ljava/lang/String;"⟩ : MethodName)) hown (mvT hZ (hw _ (om 5 rfl))) (mvT hZ (hw _ (om 6 rfl))) (mvT hZ (hw _ (om 3 rfl))) (mvT hZ (hw _ (om 7 rfl))) (by decide) (backOf (W := 0) (rmk2 l Z a0 hw [] c0 c1 c2 c3 GA GB h0 n0 Z0 SS X00 r0 r1 r2 r3) hZ (hw _ (om 7 rfl)) (hw _ (om 3 rfl)) (by decide) (by decide)) (g := (mkF m 43 #[.val (.int p0), .val (.int p1), .val (.int p2), .val (.int p3), .val (.int p4), .val (.int (2 : Int32)), .val (.int c0), .val (.int c1), .val (.int c2), .val (.int c3), .unset, .unset] [(.int c3), (.int c2), (.int c1), (.int c0), (.int (2 : Int32))])) rfl (by rw [hml]; rfl) (argsL := [(.int (2 : Int32)), (.int c0), (.int c1), (.int c2), (.int c3)]) (rest := []) (lenOf pd_0__ICCCC_Ljava_lang_String_ rfl) rfl (by show 2 * 0 + _ ≤ _; exact Nat.le_of_eq rfl) (hb hby at_43) (fun _ _ => ⟨rfl, eh4, (by decide : 0 + 4 ≤ _), (by decide : 0 + 12 ≤ _)⟩)
    dsimp only [Pt.U, Pt.locs, Pt.cells, Pt.slots] at X20 l20 y20 z20 st20 hQ20
    subst l20 y20 z20
    obtain ⟨x20, rfl, Nq20, Kq20, -, Eq20, t20, kt20, Fq20, Sq20⟩ := hQ20
    obtain ⟨h20, eh20⟩ : ∃ h, T20.heap = h := ⟨_, rfl⟩
    rw [eh20] at Kq20 Eq20 Fq20 Sq20
    have f21 := X00.keep Kq20 (all0)
    have z22 : n0 ≤ h20.size := Nat.le_trans Z0 Kq20.1
    have N20 := Fr.app N4 Nq20
    refine Goes.on (B := T20.setTop (mkF m 46 #[.val (.int p0), .val (.int p1), .val (.int p2), .val (.int p3), .val (.int p4), .val (.int (2 : Int32)), .val (.int c0), .val (.int c1), .val (.int c2), .val (.int c3), .unset, .unset] [(.ref x20)])) (fun t k => st20 t k) ?_
    rcases Sq20 with ⟨Cq20, Aq20, hp⟩ | ⟨Cq20, Aq20⟩
    · refine Goes.on (B := T20.setTop (mkF m 58 #[.val (.int p0), .val (.int p1), .val (.int p2), .val (.int p3), .val (.int p4), .val (.int (2 : Int32)), .val (.int c0), .val (.int c1), .val (.int c2), .val (.int c3), .val (.ref x20), .val (.int (1 : Int32))] [(.int c0)])) (fun _ k => XS.astore X20.here hx rfl (hb hby at_46) rfl rfl (l' := #[.val (.int p0), .val (.int p1), .val (.int p2), .val (.int p3), .val (.int p4), .val (.int (2 : Int32)), .val (.int c0), .val (.int c1), .val (.int c2), .val (.int c3), .val (.ref x20), .unset]) rfl (XS.iconst X20.here hx rfl (hb hby at_48) (XS.istore X20.here hx rfl (hb hby at_49) rfl (l' := #[.val (.int p0), .val (.int p1), .val (.int p2), .val (.int p3), .val (.int p4), .val (.int (2 : Int32)), .val (.int c0), .val (.int c1), .val (.int c2), .val (.int c3), .val (.ref x20), .val (.int (1 : Int32))]) rfl (XS.iload X20.here hx rfl (hb hby at_51) rfl  (XS.ifNo X20.here hx rfl (hb hby at_53) rfl ((if0 _ _).trans (tlt (by decide)).2.2.2) (XS.iload X20.here hx rfl (hb hby at_56) rfl  k)))))) ?_
      obtain ⟨_, _, ⟨T23, L23, k23, n23⟩, -, X23, ⟨Lc23, hQ23, l23, y23, z23⟩, st23⟩ := Jvm.LawKit.callS X20 hx (y := (⟨"com/example/heirloom_archive/heirloomarchive/model/TextIsWhiteSpacePinLaw", "xmlSpace", "(C)Z"⟩ : MethodName)) hown (mvT hZ (hw _ (om 59 rfl))) (mvT hZ (hw _ (om 60 rfl))) (mvT hZ (hw _ (om 3 rfl))) (mvT hZ (hw _ (om 61 rfl))) (by decide) (backOf (W := 0) (rmxs l Z a0 hw [] c0 h20 n0 z22) hZ (hw _ (om 61 rfl)) (hw _ (om 3 rfl)) (by decide) (by decide)) (g := (mkF m 58 #[.val (.int p0), .val (.int p1), .val (.int p2), .val (.int p3), .val (.int p4), .val (.int (2 : Int32)), .val (.int c0), .val (.int c1), .val (.int c2), .val (.int c3), .val (.ref x20), .val (.int (1 : Int32))] [(.int c0)])) rfl (by rw [hml]; rfl) (argsL := [(.int c0)]) (rest := []) (lenOf pd_0__C_Z rfl) rfl (by show 2 * 0 + _ ≤ _; exact Nat.le_of_eq rfl) (hb hby at_58) (fun _ _ => ⟨rfl, eh20, (by decide : 4 + 0 ≤ _), (by decide : 12 + 0 ≤ _)⟩)
      dsimp only [Pt.U, Pt.locs, Pt.cells, Pt.slots] at X23 l23 y23 z23 st23 hQ23
      subst l23 y23 z23
      obtain ⟨rfl, Nq23, eh23⟩ := hQ23
      have N23 := Fr.app N20 Nq23
      refine Goes.on (B := T23.setTop (mkF m 61 #[.val (.int p0), .val (.int p1), .val (.int p2), .val (.int p3), .val (.int p4), .val (.int (2 : Int32)), .val (.int c0), .val (.int c1), .val (.int c2), .val (.int c3), .val (.ref x20), .val (.int (1 : Int32))] [(.int (own_xs c0))])) (fun t k => st23 t k) ?_
      refine Goes.via (B := T23.setTop (mkF m 67 #[.val (.int p0), .val (.int p1), .val (.int p2), .val (.int p3), .val (.int p4), .val (.int (2 : Int32)), .val (.int c0), .val (.int c1), .val (.int c2), .val (.int c3), .val (.ref x20), .val (.int (own_e (own_xs c0) (1 : Int32)))] [])) (fun J24 => ?_) ?_
      · skip
        by_cases hc61_25 : (own_xs c0) = (0 : Int32)
        · refine Goes.on (B := T23.setTop (mkF m 67 #[.val (.int p0), .val (.int p1), .val (.int p2), .val (.int p3), .val (.int p4), .val (.int (2 : Int32)), .val (.int c0), .val (.int c1), .val (.int c2), .val (.int c3), .val (.ref x20), .val (.int (0 : Int32))] [])) (fun _ k => XS.ifNo X23.here hx rfl (hb hby at_61) rfl ((if0 _ _).trans (teq hc61_25).2) (XS.iconst X23.here hx rfl (hb hby at_64) (XS.istore X23.here hx rfl (hb hby at_65) rfl (l' := #[.val (.int p0), .val (.int p1), .val (.int p2), .val (.int p3), .val (.int p4), .val (.int (2 : Int32)), .val (.int c0), .val (.int c1), .val (.int c2), .val (.int c3), .val (.ref x20), .val (.int (0 : Int32))]) rfl k))) ?_
          have hj : (own_e (own_xs c0) (1 : Int32)) = (0 : Int32) := by rw [own_e, if_pos hc61_25]
          rw [hj] at J24; exact J24
        · refine Goes.on (B := T23.setTop (mkF m 67 #[.val (.int p0), .val (.int p1), .val (.int p2), .val (.int p3), .val (.int p4), .val (.int (2 : Int32)), .val (.int c0), .val (.int c1), .val (.int c2), .val (.int c3), .val (.ref x20), .val (.int (1 : Int32))] [])) (fun _ k => XS.ifYes X23.here hx rfl (pc0 := 61) (pc' := 67) rfl (hb hby at_61) rfl ((if0 _ _).trans (feq hc61_25).2) (by decide) (by decide) k) ?_
          have hj : (own_e (own_xs c0) (1 : Int32)) = (1 : Int32) := by rw [own_e, if_neg hc61_25]
          rw [hj] at J24; exact J24
      refine Goes.on (B := T23.setTop (mkF m 75 #[.val (.int p0), .val (.int p1), .val (.int p2), .val (.int p3), .val (.int p4), .val (.int (2 : Int32)), .val (.int c0), .val (.int c1), .val (.int c2), .val (.int c3), .val (.ref x20), .val (.int (own_e (own_xs c0) (1 : Int32)))] [(.int c1)])) (fun _ k => XS.iload X23.here hx rfl (hb hby at_67) rfl  (XS.iconst X23.here hx rfl (hb hby at_69) (XS.icmpNo X23.here hx rfl (hb hby at_70) rfl (tlt (by decide)).2.2.2 (XS.iload X23.here hx rfl (hb hby at_73) rfl  k)))) ?_
      obtain ⟨_, _, ⟨T26, L26, k26, n26⟩, -, X26, ⟨Lc26, hQ26, l26, y26, z26⟩, st26⟩ := Jvm.LawKit.callS X23 hx (y := (⟨"com/example/heirloom_archive/heirloomarchive/model/TextIsWhiteSpacePinLaw", "xmlSpace", "(C)Z"⟩ : MethodName)) hown (mvT hZ (hw _ (om 59 rfl))) (mvT hZ (hw _ (om 60 rfl))) (mvT hZ (hw _ (om 3 rfl))) (mvT hZ (hw _ (om 61 rfl))) (by decide) (backOf (W := 0) (rmxs l Z a0 hw [] c1 h20 n0 z22) hZ (hw _ (om 61 rfl)) (hw _ (om 3 rfl)) (by decide) (by decide)) (g := (mkF m 75 #[.val (.int p0), .val (.int p1), .val (.int p2), .val (.int p3), .val (.int p4), .val (.int (2 : Int32)), .val (.int c0), .val (.int c1), .val (.int c2), .val (.int c3), .val (.ref x20), .val (.int (own_e (own_xs c0) (1 : Int32)))] [(.int c1)])) rfl (by rw [hml]; rfl) (argsL := [(.int c1)]) (rest := []) (lenOf pd_0__C_Z rfl) rfl (by show 2 * 0 + _ ≤ _; exact Nat.le_of_eq rfl) (hb hby at_75) (fun _ _ => ⟨rfl, eh23, (by decide : 4 + 0 ≤ _), (by decide : 12 + 0 ≤ _)⟩)
      dsimp only [Pt.U, Pt.locs, Pt.cells, Pt.slots] at X26 l26 y26 z26 st26 hQ26
      subst l26 y26 z26
      obtain ⟨rfl, Nq26, eh26⟩ := hQ26
      have N26 := Fr.app N23 Nq26
      refine Goes.on (B := T26.setTop (mkF m 78 #[.val (.int p0), .val (.int p1), .val (.int p2), .val (.int p3), .val (.int p4), .val (.int (2 : Int32)), .val (.int c0), .val (.int c1), .val (.int c2), .val (.int c3), .val (.ref x20), .val (.int (own_e (own_xs c0) (1 : Int32)))] [(.int (own_xs c1))])) (fun t k => st26 t k) ?_
      refine Goes.via (B := T26.setTop (mkF m 84 #[.val (.int p0), .val (.int p1), .val (.int p2), .val (.int p3), .val (.int p4), .val (.int (2 : Int32)), .val (.int c0), .val (.int c1), .val (.int c2), .val (.int c3), .val (.ref x20), .val (.int (own_e (own_xs c1) (own_e (own_xs c0) (1 : Int32))))] [])) (fun J27 => ?_) ?_
      · skip
        by_cases hc78_28 : (own_xs c1) = (0 : Int32)
        · refine Goes.on (B := T26.setTop (mkF m 84 #[.val (.int p0), .val (.int p1), .val (.int p2), .val (.int p3), .val (.int p4), .val (.int (2 : Int32)), .val (.int c0), .val (.int c1), .val (.int c2), .val (.int c3), .val (.ref x20), .val (.int (0 : Int32))] [])) (fun _ k => XS.ifNo X26.here hx rfl (hb hby at_78) rfl ((if0 _ _).trans (teq hc78_28).2) (XS.iconst X26.here hx rfl (hb hby at_81) (XS.istore X26.here hx rfl (hb hby at_82) rfl (l' := #[.val (.int p0), .val (.int p1), .val (.int p2), .val (.int p3), .val (.int p4), .val (.int (2 : Int32)), .val (.int c0), .val (.int c1), .val (.int c2), .val (.int c3), .val (.ref x20), .val (.int (0 : Int32))]) rfl k))) ?_
          have hj : (own_e (own_xs c1) (own_e (own_xs c0) (1 : Int32))) = (0 : Int32) := by rw [own_e, if_pos hc78_28]
          rw [hj] at J27; exact J27
        · refine Goes.on (B := T26.setTop (mkF m 84 #[.val (.int p0), .val (.int p1), .val (.int p2), .val (.int p3), .val (.int p4), .val (.int (2 : Int32)), .val (.int c0), .val (.int c1), .val (.int c2), .val (.int c3), .val (.ref x20), .val (.int (own_e (own_xs c0) (1 : Int32)))] [])) (fun _ k => XS.ifYes X26.here hx rfl (pc0 := 78) (pc' := 84) rfl (hb hby at_78) rfl ((if0 _ _).trans (feq hc78_28).2) (by decide) (by decide) k) ?_
          have hj : (own_e (own_xs c1) (own_e (own_xs c0) (1 : Int32))) = (own_e (own_xs c0) (1 : Int32)) := by rw [own_e, if_neg hc78_28]
          rw [hj] at J27; exact J27
      refine Goes.on (B := T26.setTop (mkF m 120 #[.val (.int p0), .val (.int p1), .val (.int p2), .val (.int p3), .val (.int p4), .val (.int (2 : Int32)), .val (.int c0), .val (.int c1), .val (.int c2), .val (.int c3), .val (.ref x20), .val (.int (own_e (own_xs c1) (own_e (own_xs c0) (1 : Int32))))] [(.ref x20)])) (fun _ k => XS.iload X26.here hx rfl (hb hby at_84) rfl  (XS.iconst X26.here hx rfl (hb hby at_86) (XS.icmpYes X26.here hx rfl (pc0 := 87) (pc' := 101) rfl (hb hby at_87) rfl (flt (by decide)).2.2.2 (by decide) (by decide) (XS.iload X26.here hx rfl (hb hby at_101) rfl  (XS.iconst X26.here hx rfl (hb hby at_103) (XS.icmpYes X26.here hx rfl (pc0 := 104) (pc' := 118) rfl (hb hby at_104) rfl (flt (by decide)).2.2.2 (by decide) (by decide) (XS.aload X26.here hx rfl (hb hby at_118) rfl rfl  k))))))) ?_
      have hpp : ∀ q ∈ ([c0, c1] : List Int32), ¬ q < 0 ∧ ¬ (255 : Int32) < q := hp
      have HL : own_BL l Z h20 n0 (⟨"java/lang/String", "length", "()I"⟩ : MethodName) #[.ref x20] (2 : Int32) := own_HL l Z a0 hw x20 t20 kt20 GA GB h20 n0 SS f21 Eq20 Cq20 Fq20 ([c0, c1] : List Int32) (by first | decide | (simp only [List.length_cons, List.length_nil]; decide)) Aq20 hpp
      have HC0 : own_BL l Z h20 n0 (⟨"java/lang/String", "charAt", "(I)C"⟩ : MethodName) #[.ref x20, .int (0 : Int32)] c0 := own_HC l Z a0 hw x20 t20 kt20 0 (0 : Int32) GA GB h20 n0 SS f21 Eq20 Cq20 Fq20 ([c0, c1] : List Int32) (by first | decide | (simp only [List.length_cons, List.length_nil]; decide)) Aq20 hpp (by first | decide | (simp only [List.length_cons, List.length_nil]; decide)) rfl
      have HC1 : own_BL l Z h20 n0 (⟨"java/lang/String", "charAt", "(I)C"⟩ : MethodName) #[.ref x20, .int (1 : Int32)] c1 := own_HC l Z a0 hw x20 t20 kt20 1 (1 : Int32) GA GB h20 n0 SS f21 Eq20 Cq20 Fq20 ([c0, c1] : List Int32) (by first | decide | (simp only [List.length_cons, List.length_nil]; decide)) Aq20 hpp (by first | decide | (simp only [List.length_cons, List.length_nil]; decide)) rfl
      obtain ⟨_, _, ⟨T29, L29, k29, n29⟩, -, X29, ⟨Lc29, hQ29, l29, y29, z29⟩, st29⟩ := Jvm.LawKit.callS X26 hx (y := (⟨"com/example/heirloom_archive/heirloomarchive/model/Text", "isWhiteSpace", "(Ljava/lang/CharSequence;)Z"⟩ : MethodName)) hown (mvT hZ (hw _ (om 30 rfl))) (mvT hZ (hw _ (om 31 rfl))) (mvT hZ (hw _ (om 32 rfl))) (mvT hZ (hw _ (om 33 rfl))) (by decide) (backOf (W := 0) (rmiw2 l Z a0 hw [] x20 c0 c1 h20 n0 z22 Eq20 HL HC0 HC1) hZ (hw _ (om 33 rfl)) (hw _ (om 32 rfl)) (by decide) (by decide)) (g := (mkF m 120 #[.val (.int p0), .val (.int p1), .val (.int p2), .val (.int p3), .val (.int p4), .val (.int (2 : Int32)), .val (.int c0), .val (.int c1), .val (.int c2), .val (.int c3), .val (.ref x20), .val (.int (own_e (own_xs c1) (own_e (own_xs c0) (1 : Int32))))] [(.ref x20)])) rfl (by rw [hml]; rfl) (argsL := [(.ref x20)]) (rest := []) (lenOf pd_0__Ljava_lang_CharSequence__Z rfl) rfl (by show 2 * 0 + _ ≤ _; exact Nat.le_of_eq rfl) (hb hby at_120) (fun _ _ => ⟨rfl, eh26, (by decide : 4 + 0 ≤ _), (by decide : 12 + 0 ≤ _)⟩)
      dsimp only [Pt.U, Pt.locs, Pt.cells, Pt.slots] at X29 l29 y29 z29 st29 hQ29
      subst l29 y29 z29
      obtain ⟨rfl, Nq29, eh29⟩ := hQ29
      have N29 := Fr.app N26 Nq29
      refine Goes.on (B := T29.setTop (mkF m 123 #[.val (.int p0), .val (.int p1), .val (.int p2), .val (.int p3), .val (.int p4), .val (.int (2 : Int32)), .val (.int c0), .val (.int c1), .val (.int c2), .val (.int c3), .val (.ref x20), .val (.int (own_e (own_xs c1) (own_e (own_xs c0) (1 : Int32))))] [(.int (own_iw2 c0 c1))])) (fun t k => st29 t k) ?_
      refine Goes.on (B := T29.setTop (mkF m 133 #[.val (.int p0), .val (.int p1), .val (.int p2), .val (.int p3), .val (.int p4), .val (.int (2 : Int32)), .val (.int c0), .val (.int c1), .val (.int c2), .val (.int c3), .val (.ref x20), .val (.int (own_e (own_xs c1) (own_e (own_xs c0) (1 : Int32))))] [(.int (1 : Int32))])) (fun _ k => XS.iload X29.here hx rfl (hb hby at_123) rfl  (XS.icmpNo X29.here hx rfl (hb hby at_125) rfl (teq (own_law2 c0 c1)).2 (XS.iconst X29.here hx rfl (hb hby at_128) (XS.goto X29.here hx rfl (pc0 := 129) (pc' := 133) rfl (hb hby at_129) (by decide) (by decide) k)))) ?_
      obtain ⟨fs, hr, hrun, hended, hW, hsame⟩ := X29.leave (v := some (.int (1 : Int32))) (fun h => by rw [Bd.returns] at h; cases h)
      exact Goes.leaf (retN X29 hx (t := .boolean) Bd.returns (by simp) (hb hby at_133) hr) hrun hended ⟨_, _, rfl, by show Q0 Z p0 p1 p2 p3 p4 GA GB h0 n0 _ T29.heap _; exact ⟨rfl, N29⟩, ReturnedEndW.of_narrow ⟨_, rfl⟩ hW (hsame.mono (by decide) (by decide))⟩
    · refine Goes.on (B := T20.setTop (mkF m 58 #[.val (.int p0), .val (.int p1), .val (.int p2), .val (.int p3), .val (.int p4), .val (.int (2 : Int32)), .val (.int c0), .val (.int c1), .val (.int c2), .val (.int c3), .val (.ref x20), .val (.int (1 : Int32))] [(.int c0)])) (fun _ k => XS.astore X20.here hx rfl (hb hby at_46) rfl rfl (l' := #[.val (.int p0), .val (.int p1), .val (.int p2), .val (.int p3), .val (.int p4), .val (.int (2 : Int32)), .val (.int c0), .val (.int c1), .val (.int c2), .val (.int c3), .val (.ref x20), .unset]) rfl (XS.iconst X20.here hx rfl (hb hby at_48) (XS.istore X20.here hx rfl (hb hby at_49) rfl (l' := #[.val (.int p0), .val (.int p1), .val (.int p2), .val (.int p3), .val (.int p4), .val (.int (2 : Int32)), .val (.int c0), .val (.int c1), .val (.int c2), .val (.int c3), .val (.ref x20), .val (.int (1 : Int32))]) rfl (XS.iload X20.here hx rfl (hb hby at_51) rfl  (XS.ifNo X20.here hx rfl (hb hby at_53) rfl ((if0 _ _).trans (tlt (by decide)).2.2.2) (XS.iload X20.here hx rfl (hb hby at_56) rfl  k)))))) ?_
      obtain ⟨_, _, ⟨T30, L30, k30, n30⟩, -, X30, ⟨Lc30, hQ30, l30, y30, z30⟩, st30⟩ := Jvm.LawKit.callS X20 hx (y := (⟨"com/example/heirloom_archive/heirloomarchive/model/TextIsWhiteSpacePinLaw", "xmlSpace", "(C)Z"⟩ : MethodName)) hown (mvT hZ (hw _ (om 59 rfl))) (mvT hZ (hw _ (om 60 rfl))) (mvT hZ (hw _ (om 3 rfl))) (mvT hZ (hw _ (om 61 rfl))) (by decide) (backOf (W := 0) (rmxs l Z a0 hw [] c0 h20 n0 z22) hZ (hw _ (om 61 rfl)) (hw _ (om 3 rfl)) (by decide) (by decide)) (g := (mkF m 58 #[.val (.int p0), .val (.int p1), .val (.int p2), .val (.int p3), .val (.int p4), .val (.int (2 : Int32)), .val (.int c0), .val (.int c1), .val (.int c2), .val (.int c3), .val (.ref x20), .val (.int (1 : Int32))] [(.int c0)])) rfl (by rw [hml]; rfl) (argsL := [(.int c0)]) (rest := []) (lenOf pd_0__C_Z rfl) rfl (by show 2 * 0 + _ ≤ _; exact Nat.le_of_eq rfl) (hb hby at_58) (fun _ _ => ⟨rfl, eh20, (by decide : 4 + 0 ≤ _), (by decide : 12 + 0 ≤ _)⟩)
      dsimp only [Pt.U, Pt.locs, Pt.cells, Pt.slots] at X30 l30 y30 z30 st30 hQ30
      subst l30 y30 z30
      obtain ⟨rfl, Nq30, eh30⟩ := hQ30
      have N30 := Fr.app N20 Nq30
      refine Goes.on (B := T30.setTop (mkF m 61 #[.val (.int p0), .val (.int p1), .val (.int p2), .val (.int p3), .val (.int p4), .val (.int (2 : Int32)), .val (.int c0), .val (.int c1), .val (.int c2), .val (.int c3), .val (.ref x20), .val (.int (1 : Int32))] [(.int (own_xs c0))])) (fun t k => st30 t k) ?_
      refine Goes.via (B := T30.setTop (mkF m 67 #[.val (.int p0), .val (.int p1), .val (.int p2), .val (.int p3), .val (.int p4), .val (.int (2 : Int32)), .val (.int c0), .val (.int c1), .val (.int c2), .val (.int c3), .val (.ref x20), .val (.int (own_e (own_xs c0) (1 : Int32)))] [])) (fun J31 => ?_) ?_
      · skip
        by_cases hc61_32 : (own_xs c0) = (0 : Int32)
        · refine Goes.on (B := T30.setTop (mkF m 67 #[.val (.int p0), .val (.int p1), .val (.int p2), .val (.int p3), .val (.int p4), .val (.int (2 : Int32)), .val (.int c0), .val (.int c1), .val (.int c2), .val (.int c3), .val (.ref x20), .val (.int (0 : Int32))] [])) (fun _ k => XS.ifNo X30.here hx rfl (hb hby at_61) rfl ((if0 _ _).trans (teq hc61_32).2) (XS.iconst X30.here hx rfl (hb hby at_64) (XS.istore X30.here hx rfl (hb hby at_65) rfl (l' := #[.val (.int p0), .val (.int p1), .val (.int p2), .val (.int p3), .val (.int p4), .val (.int (2 : Int32)), .val (.int c0), .val (.int c1), .val (.int c2), .val (.int c3), .val (.ref x20), .val (.int (0 : Int32))]) rfl k))) ?_
          have hj : (own_e (own_xs c0) (1 : Int32)) = (0 : Int32) := by rw [own_e, if_pos hc61_32]
          rw [hj] at J31; exact J31
        · refine Goes.on (B := T30.setTop (mkF m 67 #[.val (.int p0), .val (.int p1), .val (.int p2), .val (.int p3), .val (.int p4), .val (.int (2 : Int32)), .val (.int c0), .val (.int c1), .val (.int c2), .val (.int c3), .val (.ref x20), .val (.int (1 : Int32))] [])) (fun _ k => XS.ifYes X30.here hx rfl (pc0 := 61) (pc' := 67) rfl (hb hby at_61) rfl ((if0 _ _).trans (feq hc61_32).2) (by decide) (by decide) k) ?_
          have hj : (own_e (own_xs c0) (1 : Int32)) = (1 : Int32) := by rw [own_e, if_neg hc61_32]
          rw [hj] at J31; exact J31
      refine Goes.on (B := T30.setTop (mkF m 75 #[.val (.int p0), .val (.int p1), .val (.int p2), .val (.int p3), .val (.int p4), .val (.int (2 : Int32)), .val (.int c0), .val (.int c1), .val (.int c2), .val (.int c3), .val (.ref x20), .val (.int (own_e (own_xs c0) (1 : Int32)))] [(.int c1)])) (fun _ k => XS.iload X30.here hx rfl (hb hby at_67) rfl  (XS.iconst X30.here hx rfl (hb hby at_69) (XS.icmpNo X30.here hx rfl (hb hby at_70) rfl (tlt (by decide)).2.2.2 (XS.iload X30.here hx rfl (hb hby at_73) rfl  k)))) ?_
      obtain ⟨_, _, ⟨T33, L33, k33, n33⟩, -, X33, ⟨Lc33, hQ33, l33, y33, z33⟩, st33⟩ := Jvm.LawKit.callS X30 hx (y := (⟨"com/example/heirloom_archive/heirloomarchive/model/TextIsWhiteSpacePinLaw", "xmlSpace", "(C)Z"⟩ : MethodName)) hown (mvT hZ (hw _ (om 59 rfl))) (mvT hZ (hw _ (om 60 rfl))) (mvT hZ (hw _ (om 3 rfl))) (mvT hZ (hw _ (om 61 rfl))) (by decide) (backOf (W := 0) (rmxs l Z a0 hw [] c1 h20 n0 z22) hZ (hw _ (om 61 rfl)) (hw _ (om 3 rfl)) (by decide) (by decide)) (g := (mkF m 75 #[.val (.int p0), .val (.int p1), .val (.int p2), .val (.int p3), .val (.int p4), .val (.int (2 : Int32)), .val (.int c0), .val (.int c1), .val (.int c2), .val (.int c3), .val (.ref x20), .val (.int (own_e (own_xs c0) (1 : Int32)))] [(.int c1)])) rfl (by rw [hml]; rfl) (argsL := [(.int c1)]) (rest := []) (lenOf pd_0__C_Z rfl) rfl (by show 2 * 0 + _ ≤ _; exact Nat.le_of_eq rfl) (hb hby at_75) (fun _ _ => ⟨rfl, eh30, (by decide : 4 + 0 ≤ _), (by decide : 12 + 0 ≤ _)⟩)
      dsimp only [Pt.U, Pt.locs, Pt.cells, Pt.slots] at X33 l33 y33 z33 st33 hQ33
      subst l33 y33 z33
      obtain ⟨rfl, Nq33, eh33⟩ := hQ33
      have N33 := Fr.app N30 Nq33
      refine Goes.on (B := T33.setTop (mkF m 78 #[.val (.int p0), .val (.int p1), .val (.int p2), .val (.int p3), .val (.int p4), .val (.int (2 : Int32)), .val (.int c0), .val (.int c1), .val (.int c2), .val (.int c3), .val (.ref x20), .val (.int (own_e (own_xs c0) (1 : Int32)))] [(.int (own_xs c1))])) (fun t k => st33 t k) ?_
      refine Goes.via (B := T33.setTop (mkF m 84 #[.val (.int p0), .val (.int p1), .val (.int p2), .val (.int p3), .val (.int p4), .val (.int (2 : Int32)), .val (.int c0), .val (.int c1), .val (.int c2), .val (.int c3), .val (.ref x20), .val (.int (own_e (own_xs c1) (own_e (own_xs c0) (1 : Int32))))] [])) (fun J34 => ?_) ?_
      · skip
        by_cases hc78_35 : (own_xs c1) = (0 : Int32)
        · refine Goes.on (B := T33.setTop (mkF m 84 #[.val (.int p0), .val (.int p1), .val (.int p2), .val (.int p3), .val (.int p4), .val (.int (2 : Int32)), .val (.int c0), .val (.int c1), .val (.int c2), .val (.int c3), .val (.ref x20), .val (.int (0 : Int32))] [])) (fun _ k => XS.ifNo X33.here hx rfl (hb hby at_78) rfl ((if0 _ _).trans (teq hc78_35).2) (XS.iconst X33.here hx rfl (hb hby at_81) (XS.istore X33.here hx rfl (hb hby at_82) rfl (l' := #[.val (.int p0), .val (.int p1), .val (.int p2), .val (.int p3), .val (.int p4), .val (.int (2 : Int32)), .val (.int c0), .val (.int c1), .val (.int c2), .val (.int c3), .val (.ref x20), .val (.int (0 : Int32))]) rfl k))) ?_
          have hj : (own_e (own_xs c1) (own_e (own_xs c0) (1 : Int32))) = (0 : Int32) := by rw [own_e, if_pos hc78_35]
          rw [hj] at J34; exact J34
        · refine Goes.on (B := T33.setTop (mkF m 84 #[.val (.int p0), .val (.int p1), .val (.int p2), .val (.int p3), .val (.int p4), .val (.int (2 : Int32)), .val (.int c0), .val (.int c1), .val (.int c2), .val (.int c3), .val (.ref x20), .val (.int (own_e (own_xs c0) (1 : Int32)))] [])) (fun _ k => XS.ifYes X33.here hx rfl (pc0 := 78) (pc' := 84) rfl (hb hby at_78) rfl ((if0 _ _).trans (feq hc78_35).2) (by decide) (by decide) k) ?_
          have hj : (own_e (own_xs c1) (own_e (own_xs c0) (1 : Int32))) = (own_e (own_xs c0) (1 : Int32)) := by rw [own_e, if_neg hc78_35]
          rw [hj] at J34; exact J34
      refine Goes.on (B := T33.setTop (mkF m 120 #[.val (.int p0), .val (.int p1), .val (.int p2), .val (.int p3), .val (.int p4), .val (.int (2 : Int32)), .val (.int c0), .val (.int c1), .val (.int c2), .val (.int c3), .val (.ref x20), .val (.int (own_e (own_xs c1) (own_e (own_xs c0) (1 : Int32))))] [(.ref x20)])) (fun _ k => XS.iload X33.here hx rfl (hb hby at_84) rfl  (XS.iconst X33.here hx rfl (hb hby at_86) (XS.icmpYes X33.here hx rfl (pc0 := 87) (pc' := 101) rfl (hb hby at_87) rfl (flt (by decide)).2.2.2 (by decide) (by decide) (XS.iload X33.here hx rfl (hb hby at_101) rfl  (XS.iconst X33.here hx rfl (hb hby at_103) (XS.icmpYes X33.here hx rfl (pc0 := 104) (pc' := 118) rfl (hb hby at_104) rfl (flt (by decide)).2.2.2 (by decide) (by decide) (XS.aload X33.here hx rfl (hb hby at_118) rfl rfl  k))))))) ?_
      have HL : own_BL l Z h20 n0 (⟨"java/lang/String", "length", "()I"⟩ : MethodName) #[.ref x20] (2 : Int32) := own_WL l Z a0 hw x20 t20 kt20 (4 : Int32) [(.int (bA c0)), (.int (bB c0)), (.int (bA c1)), (.int (bB c1))] GA GB h20 n0 z22 SS f21 Eq20 Cq20 Fq20 Aq20
      have HC0 : own_BL l Z h20 n0 (⟨"java/lang/String", "charAt", "(I)C"⟩ : MethodName) #[.ref x20, .int (0 : Int32)] c0 := own_WC l Z a0 hw x20 t20 kt20 (4 : Int32) [(.int (bA c0)), (.int (bB c0)), (.int (bA c1)), (.int (bB c1))] (0 : Int32) c0 GA GB h20 n0 z22 SS f21 Eq20 Cq20 Fq20 Aq20 ⟨by decide, by decide⟩ ⟨by decide, by decide⟩ rfl rfl r0 (by decide) (by decide)
      have HC1 : own_BL l Z h20 n0 (⟨"java/lang/String", "charAt", "(I)C"⟩ : MethodName) #[.ref x20, .int (1 : Int32)] c1 := own_WC l Z a0 hw x20 t20 kt20 (4 : Int32) [(.int (bA c0)), (.int (bB c0)), (.int (bA c1)), (.int (bB c1))] (1 : Int32) c1 GA GB h20 n0 z22 SS f21 Eq20 Cq20 Fq20 Aq20 ⟨by decide, by decide⟩ ⟨by decide, by decide⟩ rfl rfl r1 (by decide) (by decide)
      obtain ⟨_, _, ⟨T36, L36, k36, n36⟩, -, X36, ⟨Lc36, hQ36, l36, y36, z36⟩, st36⟩ := Jvm.LawKit.callS X33 hx (y := (⟨"com/example/heirloom_archive/heirloomarchive/model/Text", "isWhiteSpace", "(Ljava/lang/CharSequence;)Z"⟩ : MethodName)) hown (mvT hZ (hw _ (om 30 rfl))) (mvT hZ (hw _ (om 31 rfl))) (mvT hZ (hw _ (om 32 rfl))) (mvT hZ (hw _ (om 33 rfl))) (by decide) (backOf (W := 0) (rmiw2 l Z a0 hw [] x20 c0 c1 h20 n0 z22 Eq20 HL HC0 HC1) hZ (hw _ (om 33 rfl)) (hw _ (om 32 rfl)) (by decide) (by decide)) (g := (mkF m 120 #[.val (.int p0), .val (.int p1), .val (.int p2), .val (.int p3), .val (.int p4), .val (.int (2 : Int32)), .val (.int c0), .val (.int c1), .val (.int c2), .val (.int c3), .val (.ref x20), .val (.int (own_e (own_xs c1) (own_e (own_xs c0) (1 : Int32))))] [(.ref x20)])) rfl (by rw [hml]; rfl) (argsL := [(.ref x20)]) (rest := []) (lenOf pd_0__Ljava_lang_CharSequence__Z rfl) rfl (by show 2 * 0 + _ ≤ _; exact Nat.le_of_eq rfl) (hb hby at_120) (fun _ _ => ⟨rfl, eh33, (by decide : 4 + 0 ≤ _), (by decide : 12 + 0 ≤ _)⟩)
      dsimp only [Pt.U, Pt.locs, Pt.cells, Pt.slots] at X36 l36 y36 z36 st36 hQ36
      subst l36 y36 z36
      obtain ⟨rfl, Nq36, eh36⟩ := hQ36
      have N36 := Fr.app N33 Nq36
      refine Goes.on (B := T36.setTop (mkF m 123 #[.val (.int p0), .val (.int p1), .val (.int p2), .val (.int p3), .val (.int p4), .val (.int (2 : Int32)), .val (.int c0), .val (.int c1), .val (.int c2), .val (.int c3), .val (.ref x20), .val (.int (own_e (own_xs c1) (own_e (own_xs c0) (1 : Int32))))] [(.int (own_iw2 c0 c1))])) (fun t k => st36 t k) ?_
      refine Goes.on (B := T36.setTop (mkF m 133 #[.val (.int p0), .val (.int p1), .val (.int p2), .val (.int p3), .val (.int p4), .val (.int (2 : Int32)), .val (.int c0), .val (.int c1), .val (.int c2), .val (.int c3), .val (.ref x20), .val (.int (own_e (own_xs c1) (own_e (own_xs c0) (1 : Int32))))] [(.int (1 : Int32))])) (fun _ k => XS.iload X36.here hx rfl (hb hby at_123) rfl  (XS.icmpNo X36.here hx rfl (hb hby at_125) rfl (teq (own_law2 c0 c1)).2 (XS.iconst X36.here hx rfl (hb hby at_128) (XS.goto X36.here hx rfl (pc0 := 129) (pc' := 133) rfl (hb hby at_129) (by decide) (by decide) k)))) ?_
      obtain ⟨fs, hr, hrun, hended, hW, hsame⟩ := X36.leave (v := some (.int (1 : Int32))) (fun h => by rw [Bd.returns] at h; cases h)
      exact Goes.leaf (retN X36 hx (t := .boolean) Bd.returns (by simp) (hb hby at_133) hr) hrun hended ⟨_, _, rfl, by show Q0 Z p0 p1 p2 p3 p4 GA GB h0 n0 _ T36.heap _; exact ⟨rfl, N36⟩, ReturnedEndW.of_narrow ⟨_, rfl⟩ hW (hsame.mono (by decide) (by decide))⟩
  · refine Goes.on (B := T4.setTop (mkF m 43 #[.val (.int p0), .val (.int p1), .val (.int p2), .val (.int p3), .val (.int p4), .val (.int (3 : Int32)), .val (.int c0), .val (.int c1), .val (.int c2), .val (.int c3), .unset, .unset] [(.int c3), (.int c2), (.int c1), (.int c0), (.int (3 : Int32))])) (fun _ k => XS.iload X4.here hx rfl (hb hby at_33) rfl  (XS.iload X4.here hx rfl (hb hby at_35) rfl  (XS.iload X4.here hx rfl (hb hby at_37) rfl  (XS.iload X4.here hx rfl (hb hby at_39) rfl  (XS.iload X4.here hx rfl (hb hby at_41) rfl  k))))) ?_
    obtain ⟨_, _, ⟨T37, L37, k37, n37⟩, -, X37, ⟨Lc37, hQ37, l37, y37, z37⟩, st37⟩ := Jvm.LawKit.callS X4 hx (y := (⟨"com/example/heirloom_archive/heirloomarchive/model/TextIsWhiteSpacePinLaw", "make", "(ICCCC)Ljava/lang/String;"⟩ : MethodName)) hown (mvT hZ (hw _ (om 5 rfl))) (mvT hZ (hw _ (om 6 rfl))) (mvT hZ (hw _ (om 3 rfl))) (mvT hZ (hw _ (om 7 rfl))) (by decide) (backOf (W := 0) (rmk3 l Z a0 hw [] c0 c1 c2 c3 GA GB h0 n0 Z0 SS X00 r0 r1 r2 r3) hZ (hw _ (om 7 rfl)) (hw _ (om 3 rfl)) (by decide) (by decide)) (g := (mkF m 43 #[.val (.int p0), .val (.int p1), .val (.int p2), .val (.int p3), .val (.int p4), .val (.int (3 : Int32)), .val (.int c0), .val (.int c1), .val (.int c2), .val (.int c3), .unset, .unset] [(.int c3), (.int c2), (.int c1), (.int c0), (.int (3 : Int32))])) rfl (by rw [hml]; rfl) (argsL := [(.int (3 : Int32)), (.int c0), (.int c1), (.int c2), (.int c3)]) (rest := []) (lenOf pd_0__ICCCC_Ljava_lang_String_ rfl) rfl (by show 2 * 0 + _ ≤ _; exact Nat.le_of_eq rfl) (hb hby at_43) (fun _ _ => ⟨rfl, eh4, (by decide : 0 + 4 ≤ _), (by decide : 0 + 16 ≤ _)⟩)
    dsimp only [Pt.U, Pt.locs, Pt.cells, Pt.slots] at X37 l37 y37 z37 st37 hQ37
    subst l37 y37 z37
    obtain ⟨x37, rfl, Nq37, Kq37, -, Eq37, t37, kt37, Fq37, Sq37⟩ := hQ37
    obtain ⟨h37, eh37⟩ : ∃ h, T37.heap = h := ⟨_, rfl⟩
    rw [eh37] at Kq37 Eq37 Fq37 Sq37
    have f38 := X00.keep Kq37 (all0)
    have z39 : n0 ≤ h37.size := Nat.le_trans Z0 Kq37.1
    have N37 := Fr.app N4 Nq37
    refine Goes.on (B := T37.setTop (mkF m 46 #[.val (.int p0), .val (.int p1), .val (.int p2), .val (.int p3), .val (.int p4), .val (.int (3 : Int32)), .val (.int c0), .val (.int c1), .val (.int c2), .val (.int c3), .unset, .unset] [(.ref x37)])) (fun t k => st37 t k) ?_
    rcases Sq37 with ⟨Cq37, Aq37, hp⟩ | ⟨Cq37, Aq37⟩
    · refine Goes.on (B := T37.setTop (mkF m 58 #[.val (.int p0), .val (.int p1), .val (.int p2), .val (.int p3), .val (.int p4), .val (.int (3 : Int32)), .val (.int c0), .val (.int c1), .val (.int c2), .val (.int c3), .val (.ref x37), .val (.int (1 : Int32))] [(.int c0)])) (fun _ k => XS.astore X37.here hx rfl (hb hby at_46) rfl rfl (l' := #[.val (.int p0), .val (.int p1), .val (.int p2), .val (.int p3), .val (.int p4), .val (.int (3 : Int32)), .val (.int c0), .val (.int c1), .val (.int c2), .val (.int c3), .val (.ref x37), .unset]) rfl (XS.iconst X37.here hx rfl (hb hby at_48) (XS.istore X37.here hx rfl (hb hby at_49) rfl (l' := #[.val (.int p0), .val (.int p1), .val (.int p2), .val (.int p3), .val (.int p4), .val (.int (3 : Int32)), .val (.int c0), .val (.int c1), .val (.int c2), .val (.int c3), .val (.ref x37), .val (.int (1 : Int32))]) rfl (XS.iload X37.here hx rfl (hb hby at_51) rfl  (XS.ifNo X37.here hx rfl (hb hby at_53) rfl ((if0 _ _).trans (tlt (by decide)).2.2.2) (XS.iload X37.here hx rfl (hb hby at_56) rfl  k)))))) ?_
      obtain ⟨_, _, ⟨T40, L40, k40, n40⟩, -, X40, ⟨Lc40, hQ40, l40, y40, z40⟩, st40⟩ := Jvm.LawKit.callS X37 hx (y := (⟨"com/example/heirloom_archive/heirloomarchive/model/TextIsWhiteSpacePinLaw", "xmlSpace", "(C)Z"⟩ : MethodName)) hown (mvT hZ (hw _ (om 59 rfl))) (mvT hZ (hw _ (om 60 rfl))) (mvT hZ (hw _ (om 3 rfl))) (mvT hZ (hw _ (om 61 rfl))) (by decide) (backOf (W := 0) (rmxs l Z a0 hw [] c0 h37 n0 z39) hZ (hw _ (om 61 rfl)) (hw _ (om 3 rfl)) (by decide) (by decide)) (g := (mkF m 58 #[.val (.int p0), .val (.int p1), .val (.int p2), .val (.int p3), .val (.int p4), .val (.int (3 : Int32)), .val (.int c0), .val (.int c1), .val (.int c2), .val (.int c3), .val (.ref x37), .val (.int (1 : Int32))] [(.int c0)])) rfl (by rw [hml]; rfl) (argsL := [(.int c0)]) (rest := []) (lenOf pd_0__C_Z rfl) rfl (by show 2 * 0 + _ ≤ _; exact Nat.le_of_eq rfl) (hb hby at_58) (fun _ _ => ⟨rfl, eh37, (by decide : 4 + 0 ≤ _), (by decide : 16 + 0 ≤ _)⟩)
      dsimp only [Pt.U, Pt.locs, Pt.cells, Pt.slots] at X40 l40 y40 z40 st40 hQ40
      subst l40 y40 z40
      obtain ⟨rfl, Nq40, eh40⟩ := hQ40
      have N40 := Fr.app N37 Nq40
      refine Goes.on (B := T40.setTop (mkF m 61 #[.val (.int p0), .val (.int p1), .val (.int p2), .val (.int p3), .val (.int p4), .val (.int (3 : Int32)), .val (.int c0), .val (.int c1), .val (.int c2), .val (.int c3), .val (.ref x37), .val (.int (1 : Int32))] [(.int (own_xs c0))])) (fun t k => st40 t k) ?_
      refine Goes.via (B := T40.setTop (mkF m 67 #[.val (.int p0), .val (.int p1), .val (.int p2), .val (.int p3), .val (.int p4), .val (.int (3 : Int32)), .val (.int c0), .val (.int c1), .val (.int c2), .val (.int c3), .val (.ref x37), .val (.int (own_e (own_xs c0) (1 : Int32)))] [])) (fun J41 => ?_) ?_
      · skip
        by_cases hc61_42 : (own_xs c0) = (0 : Int32)
        · refine Goes.on (B := T40.setTop (mkF m 67 #[.val (.int p0), .val (.int p1), .val (.int p2), .val (.int p3), .val (.int p4), .val (.int (3 : Int32)), .val (.int c0), .val (.int c1), .val (.int c2), .val (.int c3), .val (.ref x37), .val (.int (0 : Int32))] [])) (fun _ k => XS.ifNo X40.here hx rfl (hb hby at_61) rfl ((if0 _ _).trans (teq hc61_42).2) (XS.iconst X40.here hx rfl (hb hby at_64) (XS.istore X40.here hx rfl (hb hby at_65) rfl (l' := #[.val (.int p0), .val (.int p1), .val (.int p2), .val (.int p3), .val (.int p4), .val (.int (3 : Int32)), .val (.int c0), .val (.int c1), .val (.int c2), .val (.int c3), .val (.ref x37), .val (.int (0 : Int32))]) rfl k))) ?_
          have hj : (own_e (own_xs c0) (1 : Int32)) = (0 : Int32) := by rw [own_e, if_pos hc61_42]
          rw [hj] at J41; exact J41
        · refine Goes.on (B := T40.setTop (mkF m 67 #[.val (.int p0), .val (.int p1), .val (.int p2), .val (.int p3), .val (.int p4), .val (.int (3 : Int32)), .val (.int c0), .val (.int c1), .val (.int c2), .val (.int c3), .val (.ref x37), .val (.int (1 : Int32))] [])) (fun _ k => XS.ifYes X40.here hx rfl (pc0 := 61) (pc' := 67) rfl (hb hby at_61) rfl ((if0 _ _).trans (feq hc61_42).2) (by decide) (by decide) k) ?_
          have hj : (own_e (own_xs c0) (1 : Int32)) = (1 : Int32) := by rw [own_e, if_neg hc61_42]
          rw [hj] at J41; exact J41
      refine Goes.on (B := T40.setTop (mkF m 75 #[.val (.int p0), .val (.int p1), .val (.int p2), .val (.int p3), .val (.int p4), .val (.int (3 : Int32)), .val (.int c0), .val (.int c1), .val (.int c2), .val (.int c3), .val (.ref x37), .val (.int (own_e (own_xs c0) (1 : Int32)))] [(.int c1)])) (fun _ k => XS.iload X40.here hx rfl (hb hby at_67) rfl  (XS.iconst X40.here hx rfl (hb hby at_69) (XS.icmpNo X40.here hx rfl (hb hby at_70) rfl (tlt (by decide)).2.2.2 (XS.iload X40.here hx rfl (hb hby at_73) rfl  k)))) ?_
      obtain ⟨_, _, ⟨T43, L43, k43, n43⟩, -, X43, ⟨Lc43, hQ43, l43, y43, z43⟩, st43⟩ := Jvm.LawKit.callS X40 hx (y := (⟨"com/example/heirloom_archive/heirloomarchive/model/TextIsWhiteSpacePinLaw", "xmlSpace", "(C)Z"⟩ : MethodName)) hown (mvT hZ (hw _ (om 59 rfl))) (mvT hZ (hw _ (om 60 rfl))) (mvT hZ (hw _ (om 3 rfl))) (mvT hZ (hw _ (om 61 rfl))) (by decide) (backOf (W := 0) (rmxs l Z a0 hw [] c1 h37 n0 z39) hZ (hw _ (om 61 rfl)) (hw _ (om 3 rfl)) (by decide) (by decide)) (g := (mkF m 75 #[.val (.int p0), .val (.int p1), .val (.int p2), .val (.int p3), .val (.int p4), .val (.int (3 : Int32)), .val (.int c0), .val (.int c1), .val (.int c2), .val (.int c3), .val (.ref x37), .val (.int (own_e (own_xs c0) (1 : Int32)))] [(.int c1)])) rfl (by rw [hml]; rfl) (argsL := [(.int c1)]) (rest := []) (lenOf pd_0__C_Z rfl) rfl (by show 2 * 0 + _ ≤ _; exact Nat.le_of_eq rfl) (hb hby at_75) (fun _ _ => ⟨rfl, eh40, (by decide : 4 + 0 ≤ _), (by decide : 16 + 0 ≤ _)⟩)
      dsimp only [Pt.U, Pt.locs, Pt.cells, Pt.slots] at X43 l43 y43 z43 st43 hQ43
      subst l43 y43 z43
      obtain ⟨rfl, Nq43, eh43⟩ := hQ43
      have N43 := Fr.app N40 Nq43
      refine Goes.on (B := T43.setTop (mkF m 78 #[.val (.int p0), .val (.int p1), .val (.int p2), .val (.int p3), .val (.int p4), .val (.int (3 : Int32)), .val (.int c0), .val (.int c1), .val (.int c2), .val (.int c3), .val (.ref x37), .val (.int (own_e (own_xs c0) (1 : Int32)))] [(.int (own_xs c1))])) (fun t k => st43 t k) ?_
      refine Goes.via (B := T43.setTop (mkF m 84 #[.val (.int p0), .val (.int p1), .val (.int p2), .val (.int p3), .val (.int p4), .val (.int (3 : Int32)), .val (.int c0), .val (.int c1), .val (.int c2), .val (.int c3), .val (.ref x37), .val (.int (own_e (own_xs c1) (own_e (own_xs c0) (1 : Int32))))] [])) (fun J44 => ?_) ?_
      · skip
        by_cases hc78_45 : (own_xs c1) = (0 : Int32)
        · refine Goes.on (B := T43.setTop (mkF m 84 #[.val (.int p0), .val (.int p1), .val (.int p2), .val (.int p3), .val (.int p4), .val (.int (3 : Int32)), .val (.int c0), .val (.int c1), .val (.int c2), .val (.int c3), .val (.ref x37), .val (.int (0 : Int32))] [])) (fun _ k => XS.ifNo X43.here hx rfl (hb hby at_78) rfl ((if0 _ _).trans (teq hc78_45).2) (XS.iconst X43.here hx rfl (hb hby at_81) (XS.istore X43.here hx rfl (hb hby at_82) rfl (l' := #[.val (.int p0), .val (.int p1), .val (.int p2), .val (.int p3), .val (.int p4), .val (.int (3 : Int32)), .val (.int c0), .val (.int c1), .val (.int c2), .val (.int c3), .val (.ref x37), .val (.int (0 : Int32))]) rfl k))) ?_
          have hj : (own_e (own_xs c1) (own_e (own_xs c0) (1 : Int32))) = (0 : Int32) := by rw [own_e, if_pos hc78_45]
          rw [hj] at J44; exact J44
        · refine Goes.on (B := T43.setTop (mkF m 84 #[.val (.int p0), .val (.int p1), .val (.int p2), .val (.int p3), .val (.int p4), .val (.int (3 : Int32)), .val (.int c0), .val (.int c1), .val (.int c2), .val (.int c3), .val (.ref x37), .val (.int (own_e (own_xs c0) (1 : Int32)))] [])) (fun _ k => XS.ifYes X43.here hx rfl (pc0 := 78) (pc' := 84) rfl (hb hby at_78) rfl ((if0 _ _).trans (feq hc78_45).2) (by decide) (by decide) k) ?_
          have hj : (own_e (own_xs c1) (own_e (own_xs c0) (1 : Int32))) = (own_e (own_xs c0) (1 : Int32)) := by rw [own_e, if_neg hc78_45]
          rw [hj] at J44; exact J44
      refine Goes.on (B := T43.setTop (mkF m 92 #[.val (.int p0), .val (.int p1), .val (.int p2), .val (.int p3), .val (.int p4), .val (.int (3 : Int32)), .val (.int c0), .val (.int c1), .val (.int c2), .val (.int c3), .val (.ref x37), .val (.int (own_e (own_xs c1) (own_e (own_xs c0) (1 : Int32))))] [(.int c2)])) (fun _ k => XS.iload X43.here hx rfl (hb hby at_84) rfl  (XS.iconst X43.here hx rfl (hb hby at_86) (XS.icmpNo X43.here hx rfl (hb hby at_87) rfl (tlt (by decide)).2.2.2 (XS.iload X43.here hx rfl (hb hby at_90) rfl  k)))) ?_
      obtain ⟨_, _, ⟨T46, L46, k46, n46⟩, -, X46, ⟨Lc46, hQ46, l46, y46, z46⟩, st46⟩ := Jvm.LawKit.callS X43 hx (y := (⟨"com/example/heirloom_archive/heirloomarchive/model/TextIsWhiteSpacePinLaw", "xmlSpace", "(C)Z"⟩ : MethodName)) hown (mvT hZ (hw _ (om 59 rfl))) (mvT hZ (hw _ (om 60 rfl))) (mvT hZ (hw _ (om 3 rfl))) (mvT hZ (hw _ (om 61 rfl))) (by decide) (backOf (W := 0) (rmxs l Z a0 hw [] c2 h37 n0 z39) hZ (hw _ (om 61 rfl)) (hw _ (om 3 rfl)) (by decide) (by decide)) (g := (mkF m 92 #[.val (.int p0), .val (.int p1), .val (.int p2), .val (.int p3), .val (.int p4), .val (.int (3 : Int32)), .val (.int c0), .val (.int c1), .val (.int c2), .val (.int c3), .val (.ref x37), .val (.int (own_e (own_xs c1) (own_e (own_xs c0) (1 : Int32))))] [(.int c2)])) rfl (by rw [hml]; rfl) (argsL := [(.int c2)]) (rest := []) (lenOf pd_0__C_Z rfl) rfl (by show 2 * 0 + _ ≤ _; exact Nat.le_of_eq rfl) (hb hby at_92) (fun _ _ => ⟨rfl, eh43, (by decide : 4 + 0 ≤ _), (by decide : 16 + 0 ≤ _)⟩)
      dsimp only [Pt.U, Pt.locs, Pt.cells, Pt.slots] at X46 l46 y46 z46 st46 hQ46
      subst l46 y46 z46
      obtain ⟨rfl, Nq46, eh46⟩ := hQ46
      have N46 := Fr.app N43 Nq46
      refine Goes.on (B := T46.setTop (mkF m 95 #[.val (.int p0), .val (.int p1), .val (.int p2), .val (.int p3), .val (.int p4), .val (.int (3 : Int32)), .val (.int c0), .val (.int c1), .val (.int c2), .val (.int c3), .val (.ref x37), .val (.int (own_e (own_xs c1) (own_e (own_xs c0) (1 : Int32))))] [(.int (own_xs c2))])) (fun t k => st46 t k) ?_
      refine Goes.via (B := T46.setTop (mkF m 101 #[.val (.int p0), .val (.int p1), .val (.int p2), .val (.int p3), .val (.int p4), .val (.int (3 : Int32)), .val (.int c0), .val (.int c1), .val (.int c2), .val (.int c3), .val (.ref x37), .val (.int (own_e (own_xs c2) (own_e (own_xs c1) (own_e (own_xs c0) (1 : Int32)))))] [])) (fun J47 => ?_) ?_
      · skip
        by_cases hc95_48 : (own_xs c2) = (0 : Int32)
        · refine Goes.on (B := T46.setTop (mkF m 101 #[.val (.int p0), .val (.int p1), .val (.int p2), .val (.int p3), .val (.int p4), .val (.int (3 : Int32)), .val (.int c0), .val (.int c1), .val (.int c2), .val (.int c3), .val (.ref x37), .val (.int (0 : Int32))] [])) (fun _ k => XS.ifNo X46.here hx rfl (hb hby at_95) rfl ((if0 _ _).trans (teq hc95_48).2) (XS.iconst X46.here hx rfl (hb hby at_98) (XS.istore X46.here hx rfl (hb hby at_99) rfl (l' := #[.val (.int p0), .val (.int p1), .val (.int p2), .val (.int p3), .val (.int p4), .val (.int (3 : Int32)), .val (.int c0), .val (.int c1), .val (.int c2), .val (.int c3), .val (.ref x37), .val (.int (0 : Int32))]) rfl k))) ?_
          have hj : (own_e (own_xs c2) (own_e (own_xs c1) (own_e (own_xs c0) (1 : Int32)))) = (0 : Int32) := by rw [own_e, if_pos hc95_48]
          rw [hj] at J47; exact J47
        · refine Goes.on (B := T46.setTop (mkF m 101 #[.val (.int p0), .val (.int p1), .val (.int p2), .val (.int p3), .val (.int p4), .val (.int (3 : Int32)), .val (.int c0), .val (.int c1), .val (.int c2), .val (.int c3), .val (.ref x37), .val (.int (own_e (own_xs c1) (own_e (own_xs c0) (1 : Int32))))] [])) (fun _ k => XS.ifYes X46.here hx rfl (pc0 := 95) (pc' := 101) rfl (hb hby at_95) rfl ((if0 _ _).trans (feq hc95_48).2) (by decide) (by decide) k) ?_
          have hj : (own_e (own_xs c2) (own_e (own_xs c1) (own_e (own_xs c0) (1 : Int32)))) = (own_e (own_xs c1) (own_e (own_xs c0) (1 : Int32))) := by rw [own_e, if_neg hc95_48]
          rw [hj] at J47; exact J47
      refine Goes.on (B := T46.setTop (mkF m 120 #[.val (.int p0), .val (.int p1), .val (.int p2), .val (.int p3), .val (.int p4), .val (.int (3 : Int32)), .val (.int c0), .val (.int c1), .val (.int c2), .val (.int c3), .val (.ref x37), .val (.int (own_e (own_xs c2) (own_e (own_xs c1) (own_e (own_xs c0) (1 : Int32)))))] [(.ref x37)])) (fun _ k => XS.iload X46.here hx rfl (hb hby at_101) rfl  (XS.iconst X46.here hx rfl (hb hby at_103) (XS.icmpYes X46.here hx rfl (pc0 := 104) (pc' := 118) rfl (hb hby at_104) rfl (flt (by decide)).2.2.2 (by decide) (by decide) (XS.aload X46.here hx rfl (hb hby at_118) rfl rfl  k)))) ?_
      have hpp : ∀ q ∈ ([c0, c1, c2] : List Int32), ¬ q < 0 ∧ ¬ (255 : Int32) < q := hp
      have HL : own_BL l Z h37 n0 (⟨"java/lang/String", "length", "()I"⟩ : MethodName) #[.ref x37] (3 : Int32) := own_HL l Z a0 hw x37 t37 kt37 GA GB h37 n0 SS f38 Eq37 Cq37 Fq37 ([c0, c1, c2] : List Int32) (by first | decide | (simp only [List.length_cons, List.length_nil]; decide)) Aq37 hpp
      have HC0 : own_BL l Z h37 n0 (⟨"java/lang/String", "charAt", "(I)C"⟩ : MethodName) #[.ref x37, .int (0 : Int32)] c0 := own_HC l Z a0 hw x37 t37 kt37 0 (0 : Int32) GA GB h37 n0 SS f38 Eq37 Cq37 Fq37 ([c0, c1, c2] : List Int32) (by first | decide | (simp only [List.length_cons, List.length_nil]; decide)) Aq37 hpp (by first | decide | (simp only [List.length_cons, List.length_nil]; decide)) rfl
      have HC1 : own_BL l Z h37 n0 (⟨"java/lang/String", "charAt", "(I)C"⟩ : MethodName) #[.ref x37, .int (1 : Int32)] c1 := own_HC l Z a0 hw x37 t37 kt37 1 (1 : Int32) GA GB h37 n0 SS f38 Eq37 Cq37 Fq37 ([c0, c1, c2] : List Int32) (by first | decide | (simp only [List.length_cons, List.length_nil]; decide)) Aq37 hpp (by first | decide | (simp only [List.length_cons, List.length_nil]; decide)) rfl
      have HC2 : own_BL l Z h37 n0 (⟨"java/lang/String", "charAt", "(I)C"⟩ : MethodName) #[.ref x37, .int (2 : Int32)] c2 := own_HC l Z a0 hw x37 t37 kt37 2 (2 : Int32) GA GB h37 n0 SS f38 Eq37 Cq37 Fq37 ([c0, c1, c2] : List Int32) (by first | decide | (simp only [List.length_cons, List.length_nil]; decide)) Aq37 hpp (by first | decide | (simp only [List.length_cons, List.length_nil]; decide)) rfl
      obtain ⟨_, _, ⟨T49, L49, k49, n49⟩, -, X49, ⟨Lc49, hQ49, l49, y49, z49⟩, st49⟩ := Jvm.LawKit.callS X46 hx (y := (⟨"com/example/heirloom_archive/heirloomarchive/model/Text", "isWhiteSpace", "(Ljava/lang/CharSequence;)Z"⟩ : MethodName)) hown (mvT hZ (hw _ (om 30 rfl))) (mvT hZ (hw _ (om 31 rfl))) (mvT hZ (hw _ (om 32 rfl))) (mvT hZ (hw _ (om 33 rfl))) (by decide) (backOf (W := 0) (rmiw3 l Z a0 hw [] x37 c0 c1 c2 h37 n0 z39 Eq37 HL HC0 HC1 HC2) hZ (hw _ (om 33 rfl)) (hw _ (om 32 rfl)) (by decide) (by decide)) (g := (mkF m 120 #[.val (.int p0), .val (.int p1), .val (.int p2), .val (.int p3), .val (.int p4), .val (.int (3 : Int32)), .val (.int c0), .val (.int c1), .val (.int c2), .val (.int c3), .val (.ref x37), .val (.int (own_e (own_xs c2) (own_e (own_xs c1) (own_e (own_xs c0) (1 : Int32)))))] [(.ref x37)])) rfl (by rw [hml]; rfl) (argsL := [(.ref x37)]) (rest := []) (lenOf pd_0__Ljava_lang_CharSequence__Z rfl) rfl (by show 2 * 0 + _ ≤ _; exact Nat.le_of_eq rfl) (hb hby at_120) (fun _ _ => ⟨rfl, eh46, (by decide : 4 + 0 ≤ _), (by decide : 16 + 0 ≤ _)⟩)
      dsimp only [Pt.U, Pt.locs, Pt.cells, Pt.slots] at X49 l49 y49 z49 st49 hQ49
      subst l49 y49 z49
      obtain ⟨rfl, Nq49, eh49⟩ := hQ49
      have N49 := Fr.app N46 Nq49
      refine Goes.on (B := T49.setTop (mkF m 123 #[.val (.int p0), .val (.int p1), .val (.int p2), .val (.int p3), .val (.int p4), .val (.int (3 : Int32)), .val (.int c0), .val (.int c1), .val (.int c2), .val (.int c3), .val (.ref x37), .val (.int (own_e (own_xs c2) (own_e (own_xs c1) (own_e (own_xs c0) (1 : Int32)))))] [(.int (own_iw3 c0 c1 c2))])) (fun t k => st49 t k) ?_
      refine Goes.on (B := T49.setTop (mkF m 133 #[.val (.int p0), .val (.int p1), .val (.int p2), .val (.int p3), .val (.int p4), .val (.int (3 : Int32)), .val (.int c0), .val (.int c1), .val (.int c2), .val (.int c3), .val (.ref x37), .val (.int (own_e (own_xs c2) (own_e (own_xs c1) (own_e (own_xs c0) (1 : Int32)))))] [(.int (1 : Int32))])) (fun _ k => XS.iload X49.here hx rfl (hb hby at_123) rfl  (XS.icmpNo X49.here hx rfl (hb hby at_125) rfl (teq (own_law3 c0 c1 c2)).2 (XS.iconst X49.here hx rfl (hb hby at_128) (XS.goto X49.here hx rfl (pc0 := 129) (pc' := 133) rfl (hb hby at_129) (by decide) (by decide) k)))) ?_
      obtain ⟨fs, hr, hrun, hended, hW, hsame⟩ := X49.leave (v := some (.int (1 : Int32))) (fun h => by rw [Bd.returns] at h; cases h)
      exact Goes.leaf (retN X49 hx (t := .boolean) Bd.returns (by simp) (hb hby at_133) hr) hrun hended ⟨_, _, rfl, by show Q0 Z p0 p1 p2 p3 p4 GA GB h0 n0 _ T49.heap _; exact ⟨rfl, N49⟩, ReturnedEndW.of_narrow ⟨_, rfl⟩ hW (hsame.mono (by decide) (by decide))⟩
    · refine Goes.on (B := T37.setTop (mkF m 58 #[.val (.int p0), .val (.int p1), .val (.int p2), .val (.int p3), .val (.int p4), .val (.int (3 : Int32)), .val (.int c0), .val (.int c1), .val (.int c2), .val (.int c3), .val (.ref x37), .val (.int (1 : Int32))] [(.int c0)])) (fun _ k => XS.astore X37.here hx rfl (hb hby at_46) rfl rfl (l' := #[.val (.int p0), .val (.int p1), .val (.int p2), .val (.int p3), .val (.int p4), .val (.int (3 : Int32)), .val (.int c0), .val (.int c1), .val (.int c2), .val (.int c3), .val (.ref x37), .unset]) rfl (XS.iconst X37.here hx rfl (hb hby at_48) (XS.istore X37.here hx rfl (hb hby at_49) rfl (l' := #[.val (.int p0), .val (.int p1), .val (.int p2), .val (.int p3), .val (.int p4), .val (.int (3 : Int32)), .val (.int c0), .val (.int c1), .val (.int c2), .val (.int c3), .val (.ref x37), .val (.int (1 : Int32))]) rfl (XS.iload X37.here hx rfl (hb hby at_51) rfl  (XS.ifNo X37.here hx rfl (hb hby at_53) rfl ((if0 _ _).trans (tlt (by decide)).2.2.2) (XS.iload X37.here hx rfl (hb hby at_56) rfl  k)))))) ?_
      obtain ⟨_, _, ⟨T50, L50, k50, n50⟩, -, X50, ⟨Lc50, hQ50, l50, y50, z50⟩, st50⟩ := Jvm.LawKit.callS X37 hx (y := (⟨"com/example/heirloom_archive/heirloomarchive/model/TextIsWhiteSpacePinLaw", "xmlSpace", "(C)Z"⟩ : MethodName)) hown (mvT hZ (hw _ (om 59 rfl))) (mvT hZ (hw _ (om 60 rfl))) (mvT hZ (hw _ (om 3 rfl))) (mvT hZ (hw _ (om 61 rfl))) (by decide) (backOf (W := 0) (rmxs l Z a0 hw [] c0 h37 n0 z39) hZ (hw _ (om 61 rfl)) (hw _ (om 3 rfl)) (by decide) (by decide)) (g := (mkF m 58 #[.val (.int p0), .val (.int p1), .val (.int p2), .val (.int p3), .val (.int p4), .val (.int (3 : Int32)), .val (.int c0), .val (.int c1), .val (.int c2), .val (.int c3), .val (.ref x37), .val (.int (1 : Int32))] [(.int c0)])) rfl (by rw [hml]; rfl) (argsL := [(.int c0)]) (rest := []) (lenOf pd_0__C_Z rfl) rfl (by show 2 * 0 + _ ≤ _; exact Nat.le_of_eq rfl) (hb hby at_58) (fun _ _ => ⟨rfl, eh37, (by decide : 4 + 0 ≤ _), (by decide : 16 + 0 ≤ _)⟩)
      dsimp only [Pt.U, Pt.locs, Pt.cells, Pt.slots] at X50 l50 y50 z50 st50 hQ50
      subst l50 y50 z50
      obtain ⟨rfl, Nq50, eh50⟩ := hQ50
      have N50 := Fr.app N37 Nq50
      refine Goes.on (B := T50.setTop (mkF m 61 #[.val (.int p0), .val (.int p1), .val (.int p2), .val (.int p3), .val (.int p4), .val (.int (3 : Int32)), .val (.int c0), .val (.int c1), .val (.int c2), .val (.int c3), .val (.ref x37), .val (.int (1 : Int32))] [(.int (own_xs c0))])) (fun t k => st50 t k) ?_
      refine Goes.via (B := T50.setTop (mkF m 67 #[.val (.int p0), .val (.int p1), .val (.int p2), .val (.int p3), .val (.int p4), .val (.int (3 : Int32)), .val (.int c0), .val (.int c1), .val (.int c2), .val (.int c3), .val (.ref x37), .val (.int (own_e (own_xs c0) (1 : Int32)))] [])) (fun J51 => ?_) ?_
      · skip
        by_cases hc61_52 : (own_xs c0) = (0 : Int32)
        · refine Goes.on (B := T50.setTop (mkF m 67 #[.val (.int p0), .val (.int p1), .val (.int p2), .val (.int p3), .val (.int p4), .val (.int (3 : Int32)), .val (.int c0), .val (.int c1), .val (.int c2), .val (.int c3), .val (.ref x37), .val (.int (0 : Int32))] [])) (fun _ k => XS.ifNo X50.here hx rfl (hb hby at_61) rfl ((if0 _ _).trans (teq hc61_52).2) (XS.iconst X50.here hx rfl (hb hby at_64) (XS.istore X50.here hx rfl (hb hby at_65) rfl (l' := #[.val (.int p0), .val (.int p1), .val (.int p2), .val (.int p3), .val (.int p4), .val (.int (3 : Int32)), .val (.int c0), .val (.int c1), .val (.int c2), .val (.int c3), .val (.ref x37), .val (.int (0 : Int32))]) rfl k))) ?_
          have hj : (own_e (own_xs c0) (1 : Int32)) = (0 : Int32) := by rw [own_e, if_pos hc61_52]
          rw [hj] at J51; exact J51
        · refine Goes.on (B := T50.setTop (mkF m 67 #[.val (.int p0), .val (.int p1), .val (.int p2), .val (.int p3), .val (.int p4), .val (.int (3 : Int32)), .val (.int c0), .val (.int c1), .val (.int c2), .val (.int c3), .val (.ref x37), .val (.int (1 : Int32))] [])) (fun _ k => XS.ifYes X50.here hx rfl (pc0 := 61) (pc' := 67) rfl (hb hby at_61) rfl ((if0 _ _).trans (feq hc61_52).2) (by decide) (by decide) k) ?_
          have hj : (own_e (own_xs c0) (1 : Int32)) = (1 : Int32) := by rw [own_e, if_neg hc61_52]
          rw [hj] at J51; exact J51
      refine Goes.on (B := T50.setTop (mkF m 75 #[.val (.int p0), .val (.int p1), .val (.int p2), .val (.int p3), .val (.int p4), .val (.int (3 : Int32)), .val (.int c0), .val (.int c1), .val (.int c2), .val (.int c3), .val (.ref x37), .val (.int (own_e (own_xs c0) (1 : Int32)))] [(.int c1)])) (fun _ k => XS.iload X50.here hx rfl (hb hby at_67) rfl  (XS.iconst X50.here hx rfl (hb hby at_69) (XS.icmpNo X50.here hx rfl (hb hby at_70) rfl (tlt (by decide)).2.2.2 (XS.iload X50.here hx rfl (hb hby at_73) rfl  k)))) ?_
      obtain ⟨_, _, ⟨T53, L53, k53, n53⟩, -, X53, ⟨Lc53, hQ53, l53, y53, z53⟩, st53⟩ := Jvm.LawKit.callS X50 hx (y := (⟨"com/example/heirloom_archive/heirloomarchive/model/TextIsWhiteSpacePinLaw", "xmlSpace", "(C)Z"⟩ : MethodName)) hown (mvT hZ (hw _ (om 59 rfl))) (mvT hZ (hw _ (om 60 rfl))) (mvT hZ (hw _ (om 3 rfl))) (mvT hZ (hw _ (om 61 rfl))) (by decide) (backOf (W := 0) (rmxs l Z a0 hw [] c1 h37 n0 z39) hZ (hw _ (om 61 rfl)) (hw _ (om 3 rfl)) (by decide) (by decide)) (g := (mkF m 75 #[.val (.int p0), .val (.int p1), .val (.int p2), .val (.int p3), .val (.int p4), .val (.int (3 : Int32)), .val (.int c0), .val (.int c1), .val (.int c2), .val (.int c3), .val (.ref x37), .val (.int (own_e (own_xs c0) (1 : Int32)))] [(.int c1)])) rfl (by rw [hml]; rfl) (argsL := [(.int c1)]) (rest := []) (lenOf pd_0__C_Z rfl) rfl (by show 2 * 0 + _ ≤ _; exact Nat.le_of_eq rfl) (hb hby at_75) (fun _ _ => ⟨rfl, eh50, (by decide : 4 + 0 ≤ _), (by decide : 16 + 0 ≤ _)⟩)
      dsimp only [Pt.U, Pt.locs, Pt.cells, Pt.slots] at X53 l53 y53 z53 st53 hQ53
      subst l53 y53 z53
      obtain ⟨rfl, Nq53, eh53⟩ := hQ53
      have N53 := Fr.app N50 Nq53
      refine Goes.on (B := T53.setTop (mkF m 78 #[.val (.int p0), .val (.int p1), .val (.int p2), .val (.int p3), .val (.int p4), .val (.int (3 : Int32)), .val (.int c0), .val (.int c1), .val (.int c2), .val (.int c3), .val (.ref x37), .val (.int (own_e (own_xs c0) (1 : Int32)))] [(.int (own_xs c1))])) (fun t k => st53 t k) ?_
      refine Goes.via (B := T53.setTop (mkF m 84 #[.val (.int p0), .val (.int p1), .val (.int p2), .val (.int p3), .val (.int p4), .val (.int (3 : Int32)), .val (.int c0), .val (.int c1), .val (.int c2), .val (.int c3), .val (.ref x37), .val (.int (own_e (own_xs c1) (own_e (own_xs c0) (1 : Int32))))] [])) (fun J54 => ?_) ?_
      · skip
        by_cases hc78_55 : (own_xs c1) = (0 : Int32)
        · refine Goes.on (B := T53.setTop (mkF m 84 #[.val (.int p0), .val (.int p1), .val (.int p2), .val (.int p3), .val (.int p4), .val (.int (3 : Int32)), .val (.int c0), .val (.int c1), .val (.int c2), .val (.int c3), .val (.ref x37), .val (.int (0 : Int32))] [])) (fun _ k => XS.ifNo X53.here hx rfl (hb hby at_78) rfl ((if0 _ _).trans (teq hc78_55).2) (XS.iconst X53.here hx rfl (hb hby at_81) (XS.istore X53.here hx rfl (hb hby at_82) rfl (l' := #[.val (.int p0), .val (.int p1), .val (.int p2), .val (.int p3), .val (.int p4), .val (.int (3 : Int32)), .val (.int c0), .val (.int c1), .val (.int c2), .val (.int c3), .val (.ref x37), .val (.int (0 : Int32))]) rfl k))) ?_
          have hj : (own_e (own_xs c1) (own_e (own_xs c0) (1 : Int32))) = (0 : Int32) := by rw [own_e, if_pos hc78_55]
          rw [hj] at J54; exact J54
        · refine Goes.on (B := T53.setTop (mkF m 84 #[.val (.int p0), .val (.int p1), .val (.int p2), .val (.int p3), .val (.int p4), .val (.int (3 : Int32)), .val (.int c0), .val (.int c1), .val (.int c2), .val (.int c3), .val (.ref x37), .val (.int (own_e (own_xs c0) (1 : Int32)))] [])) (fun _ k => XS.ifYes X53.here hx rfl (pc0 := 78) (pc' := 84) rfl (hb hby at_78) rfl ((if0 _ _).trans (feq hc78_55).2) (by decide) (by decide) k) ?_
          have hj : (own_e (own_xs c1) (own_e (own_xs c0) (1 : Int32))) = (own_e (own_xs c0) (1 : Int32)) := by rw [own_e, if_neg hc78_55]
          rw [hj] at J54; exact J54
      refine Goes.on (B := T53.setTop (mkF m 92 #[.val (.int p0), .val (.int p1), .val (.int p2), .val (.int p3), .val (.int p4), .val (.int (3 : Int32)), .val (.int c0), .val (.int c1), .val (.int c2), .val (.int c3), .val (.ref x37), .val (.int (own_e (own_xs c1) (own_e (own_xs c0) (1 : Int32))))] [(.int c2)])) (fun _ k => XS.iload X53.here hx rfl (hb hby at_84) rfl  (XS.iconst X53.here hx rfl (hb hby at_86) (XS.icmpNo X53.here hx rfl (hb hby at_87) rfl (tlt (by decide)).2.2.2 (XS.iload X53.here hx rfl (hb hby at_90) rfl  k)))) ?_
      obtain ⟨_, _, ⟨T56, L56, k56, n56⟩, -, X56, ⟨Lc56, hQ56, l56, y56, z56⟩, st56⟩ := Jvm.LawKit.callS X53 hx (y := (⟨"com/example/heirloom_archive/heirloomarchive/model/TextIsWhiteSpacePinLaw", "xmlSpace", "(C)Z"⟩ : MethodName)) hown (mvT hZ (hw _ (om 59 rfl))) (mvT hZ (hw _ (om 60 rfl))) (mvT hZ (hw _ (om 3 rfl))) (mvT hZ (hw _ (om 61 rfl))) (by decide) (backOf (W := 0) (rmxs l Z a0 hw [] c2 h37 n0 z39) hZ (hw _ (om 61 rfl)) (hw _ (om 3 rfl)) (by decide) (by decide)) (g := (mkF m 92 #[.val (.int p0), .val (.int p1), .val (.int p2), .val (.int p3), .val (.int p4), .val (.int (3 : Int32)), .val (.int c0), .val (.int c1), .val (.int c2), .val (.int c3), .val (.ref x37), .val (.int (own_e (own_xs c1) (own_e (own_xs c0) (1 : Int32))))] [(.int c2)])) rfl (by rw [hml]; rfl) (argsL := [(.int c2)]) (rest := []) (lenOf pd_0__C_Z rfl) rfl (by show 2 * 0 + _ ≤ _; exact Nat.le_of_eq rfl) (hb hby at_92) (fun _ _ => ⟨rfl, eh53, (by decide : 4 + 0 ≤ _), (by decide : 16 + 0 ≤ _)⟩)
      dsimp only [Pt.U, Pt.locs, Pt.cells, Pt.slots] at X56 l56 y56 z56 st56 hQ56
      subst l56 y56 z56
      obtain ⟨rfl, Nq56, eh56⟩ := hQ56
      have N56 := Fr.app N53 Nq56
      refine Goes.on (B := T56.setTop (mkF m 95 #[.val (.int p0), .val (.int p1), .val (.int p2), .val (.int p3), .val (.int p4), .val (.int (3 : Int32)), .val (.int c0), .val (.int c1), .val (.int c2), .val (.int c3), .val (.ref x37), .val (.int (own_e (own_xs c1) (own_e (own_xs c0) (1 : Int32))))] [(.int (own_xs c2))])) (fun t k => st56 t k) ?_
      refine Goes.via (B := T56.setTop (mkF m 101 #[.val (.int p0), .val (.int p1), .val (.int p2), .val (.int p3), .val (.int p4), .val (.int (3 : Int32)), .val (.int c0), .val (.int c1), .val (.int c2), .val (.int c3), .val (.ref x37), .val (.int (own_e (own_xs c2) (own_e (own_xs c1) (own_e (own_xs c0) (1 : Int32)))))] [])) (fun J57 => ?_) ?_
      · skip
        by_cases hc95_58 : (own_xs c2) = (0 : Int32)
        · refine Goes.on (B := T56.setTop (mkF m 101 #[.val (.int p0), .val (.int p1), .val (.int p2), .val (.int p3), .val (.int p4), .val (.int (3 : Int32)), .val (.int c0), .val (.int c1), .val (.int c2), .val (.int c3), .val (.ref x37), .val (.int (0 : Int32))] [])) (fun _ k => XS.ifNo X56.here hx rfl (hb hby at_95) rfl ((if0 _ _).trans (teq hc95_58).2) (XS.iconst X56.here hx rfl (hb hby at_98) (XS.istore X56.here hx rfl (hb hby at_99) rfl (l' := #[.val (.int p0), .val (.int p1), .val (.int p2), .val (.int p3), .val (.int p4), .val (.int (3 : Int32)), .val (.int c0), .val (.int c1), .val (.int c2), .val (.int c3), .val (.ref x37), .val (.int (0 : Int32))]) rfl k))) ?_
          have hj : (own_e (own_xs c2) (own_e (own_xs c1) (own_e (own_xs c0) (1 : Int32)))) = (0 : Int32) := by rw [own_e, if_pos hc95_58]
          rw [hj] at J57; exact J57
        · refine Goes.on (B := T56.setTop (mkF m 101 #[.val (.int p0), .val (.int p1), .val (.int p2), .val (.int p3), .val (.int p4), .val (.int (3 : Int32)), .val (.int c0), .val (.int c1), .val (.int c2), .val (.int c3), .val (.ref x37), .val (.int (own_e (own_xs c1) (own_e (own_xs c0) (1 : Int32))))] [])) (fun _ k => XS.ifYes X56.here hx rfl (pc0 := 95) (pc' := 101) rfl (hb hby at_95) rfl ((if0 _ _).trans (feq hc95_58).2) (by decide) (by decide) k) ?_
          have hj : (own_e (own_xs c2) (own_e (own_xs c1) (own_e (own_xs c0) (1 : Int32)))) = (own_e (own_xs c1) (own_e (own_xs c0) (1 : Int32))) := by rw [own_e, if_neg hc95_58]
          rw [hj] at J57; exact J57
      refine Goes.on (B := T56.setTop (mkF m 120 #[.val (.int p0), .val (.int p1), .val (.int p2), .val (.int p3), .val (.int p4), .val (.int (3 : Int32)), .val (.int c0), .val (.int c1), .val (.int c2), .val (.int c3), .val (.ref x37), .val (.int (own_e (own_xs c2) (own_e (own_xs c1) (own_e (own_xs c0) (1 : Int32)))))] [(.ref x37)])) (fun _ k => XS.iload X56.here hx rfl (hb hby at_101) rfl  (XS.iconst X56.here hx rfl (hb hby at_103) (XS.icmpYes X56.here hx rfl (pc0 := 104) (pc' := 118) rfl (hb hby at_104) rfl (flt (by decide)).2.2.2 (by decide) (by decide) (XS.aload X56.here hx rfl (hb hby at_118) rfl rfl  k)))) ?_
      have HL : own_BL l Z h37 n0 (⟨"java/lang/String", "length", "()I"⟩ : MethodName) #[.ref x37] (3 : Int32) := own_WL l Z a0 hw x37 t37 kt37 (6 : Int32) [(.int (bA c0)), (.int (bB c0)), (.int (bA c1)), (.int (bB c1)), (.int (bA c2)), (.int (bB c2))] GA GB h37 n0 z39 SS f38 Eq37 Cq37 Fq37 Aq37
      have HC0 : own_BL l Z h37 n0 (⟨"java/lang/String", "charAt", "(I)C"⟩ : MethodName) #[.ref x37, .int (0 : Int32)] c0 := own_WC l Z a0 hw x37 t37 kt37 (6 : Int32) [(.int (bA c0)), (.int (bB c0)), (.int (bA c1)), (.int (bB c1)), (.int (bA c2)), (.int (bB c2))] (0 : Int32) c0 GA GB h37 n0 z39 SS f38 Eq37 Cq37 Fq37 Aq37 ⟨by decide, by decide⟩ ⟨by decide, by decide⟩ rfl rfl r0 (by decide) (by decide)
      have HC1 : own_BL l Z h37 n0 (⟨"java/lang/String", "charAt", "(I)C"⟩ : MethodName) #[.ref x37, .int (1 : Int32)] c1 := own_WC l Z a0 hw x37 t37 kt37 (6 : Int32) [(.int (bA c0)), (.int (bB c0)), (.int (bA c1)), (.int (bB c1)), (.int (bA c2)), (.int (bB c2))] (1 : Int32) c1 GA GB h37 n0 z39 SS f38 Eq37 Cq37 Fq37 Aq37 ⟨by decide, by decide⟩ ⟨by decide, by decide⟩ rfl rfl r1 (by decide) (by decide)
      have HC2 : own_BL l Z h37 n0 (⟨"java/lang/String", "charAt", "(I)C"⟩ : MethodName) #[.ref x37, .int (2 : Int32)] c2 := own_WC l Z a0 hw x37 t37 kt37 (6 : Int32) [(.int (bA c0)), (.int (bB c0)), (.int (bA c1)), (.int (bB c1)), (.int (bA c2)), (.int (bB c2))] (2 : Int32) c2 GA GB h37 n0 z39 SS f38 Eq37 Cq37 Fq37 Aq37 ⟨by decide, by decide⟩ ⟨by decide, by decide⟩ rfl rfl r2 (by decide) (by decide)
      obtain ⟨_, _, ⟨T59, L59, k59, n59⟩, -, X59, ⟨Lc59, hQ59, l59, y59, z59⟩, st59⟩ := Jvm.LawKit.callS X56 hx (y := (⟨"com/example/heirloom_archive/heirloomarchive/model/Text", "isWhiteSpace", "(Ljava/lang/CharSequence;)Z"⟩ : MethodName)) hown (mvT hZ (hw _ (om 30 rfl))) (mvT hZ (hw _ (om 31 rfl))) (mvT hZ (hw _ (om 32 rfl))) (mvT hZ (hw _ (om 33 rfl))) (by decide) (backOf (W := 0) (rmiw3 l Z a0 hw [] x37 c0 c1 c2 h37 n0 z39 Eq37 HL HC0 HC1 HC2) hZ (hw _ (om 33 rfl)) (hw _ (om 32 rfl)) (by decide) (by decide)) (g := (mkF m 120 #[.val (.int p0), .val (.int p1), .val (.int p2), .val (.int p3), .val (.int p4), .val (.int (3 : Int32)), .val (.int c0), .val (.int c1), .val (.int c2), .val (.int c3), .val (.ref x37), .val (.int (own_e (own_xs c2) (own_e (own_xs c1) (own_e (own_xs c0) (1 : Int32)))))] [(.ref x37)])) rfl (by rw [hml]; rfl) (argsL := [(.ref x37)]) (rest := []) (lenOf pd_0__Ljava_lang_CharSequence__Z rfl) rfl (by show 2 * 0 + _ ≤ _; exact Nat.le_of_eq rfl) (hb hby at_120) (fun _ _ => ⟨rfl, eh56, (by decide : 4 + 0 ≤ _), (by decide : 16 + 0 ≤ _)⟩)
      dsimp only [Pt.U, Pt.locs, Pt.cells, Pt.slots] at X59 l59 y59 z59 st59 hQ59
      subst l59 y59 z59
      obtain ⟨rfl, Nq59, eh59⟩ := hQ59
      have N59 := Fr.app N56 Nq59
      refine Goes.on (B := T59.setTop (mkF m 123 #[.val (.int p0), .val (.int p1), .val (.int p2), .val (.int p3), .val (.int p4), .val (.int (3 : Int32)), .val (.int c0), .val (.int c1), .val (.int c2), .val (.int c3), .val (.ref x37), .val (.int (own_e (own_xs c2) (own_e (own_xs c1) (own_e (own_xs c0) (1 : Int32)))))] [(.int (own_iw3 c0 c1 c2))])) (fun t k => st59 t k) ?_
      refine Goes.on (B := T59.setTop (mkF m 133 #[.val (.int p0), .val (.int p1), .val (.int p2), .val (.int p3), .val (.int p4), .val (.int (3 : Int32)), .val (.int c0), .val (.int c1), .val (.int c2), .val (.int c3), .val (.ref x37), .val (.int (own_e (own_xs c2) (own_e (own_xs c1) (own_e (own_xs c0) (1 : Int32)))))] [(.int (1 : Int32))])) (fun _ k => XS.iload X59.here hx rfl (hb hby at_123) rfl  (XS.icmpNo X59.here hx rfl (hb hby at_125) rfl (teq (own_law3 c0 c1 c2)).2 (XS.iconst X59.here hx rfl (hb hby at_128) (XS.goto X59.here hx rfl (pc0 := 129) (pc' := 133) rfl (hb hby at_129) (by decide) (by decide) k)))) ?_
      obtain ⟨fs, hr, hrun, hended, hW, hsame⟩ := X59.leave (v := some (.int (1 : Int32))) (fun h => by rw [Bd.returns] at h; cases h)
      exact Goes.leaf (retN X59 hx (t := .boolean) Bd.returns (by simp) (hb hby at_133) hr) hrun hended ⟨_, _, rfl, by show Q0 Z p0 p1 p2 p3 p4 GA GB h0 n0 _ T59.heap _; exact ⟨rfl, N59⟩, ReturnedEndW.of_narrow ⟨_, rfl⟩ hW (hsame.mono (by decide) (by decide))⟩
  · refine Goes.on (B := T4.setTop (mkF m 43 #[.val (.int p0), .val (.int p1), .val (.int p2), .val (.int p3), .val (.int p4), .val (.int (4 : Int32)), .val (.int c0), .val (.int c1), .val (.int c2), .val (.int c3), .unset, .unset] [(.int c3), (.int c2), (.int c1), (.int c0), (.int (4 : Int32))])) (fun _ k => XS.iload X4.here hx rfl (hb hby at_33) rfl  (XS.iload X4.here hx rfl (hb hby at_35) rfl  (XS.iload X4.here hx rfl (hb hby at_37) rfl  (XS.iload X4.here hx rfl (hb hby at_39) rfl  (XS.iload X4.here hx rfl (hb hby at_41) rfl  k))))) ?_
    obtain ⟨_, _, ⟨T60, L60, k60, n60⟩, -, X60, ⟨Lc60, hQ60, l60, y60, z60⟩, st60⟩ := Jvm.LawKit.callS X4 hx (y := (⟨"com/example/heirloom_archive/heirloomarchive/model/TextIsWhiteSpacePinLaw", "make", "(ICCCC)Ljava/lang/String;"⟩ : MethodName)) hown (mvT hZ (hw _ (om 5 rfl))) (mvT hZ (hw _ (om 6 rfl))) (mvT hZ (hw _ (om 3 rfl))) (mvT hZ (hw _ (om 7 rfl))) (by decide) (backOf (W := 0) (rmk4 l Z a0 hw [] c0 c1 c2 c3 GA GB h0 n0 Z0 SS X00 r0 r1 r2 r3) hZ (hw _ (om 7 rfl)) (hw _ (om 3 rfl)) (by decide) (by decide)) (g := (mkF m 43 #[.val (.int p0), .val (.int p1), .val (.int p2), .val (.int p3), .val (.int p4), .val (.int (4 : Int32)), .val (.int c0), .val (.int c1), .val (.int c2), .val (.int c3), .unset, .unset] [(.int c3), (.int c2), (.int c1), (.int c0), (.int (4 : Int32))])) rfl (by rw [hml]; rfl) (argsL := [(.int (4 : Int32)), (.int c0), (.int c1), (.int c2), (.int c3)]) (rest := []) (lenOf pd_0__ICCCC_Ljava_lang_String_ rfl) rfl (by show 2 * 0 + _ ≤ _; exact Nat.le_of_eq rfl) (hb hby at_43) (fun _ _ => ⟨rfl, eh4, (by decide : 0 + 4 ≤ _), (by decide : 0 + 20 ≤ _)⟩)
    dsimp only [Pt.U, Pt.locs, Pt.cells, Pt.slots] at X60 l60 y60 z60 st60 hQ60
    subst l60 y60 z60
    obtain ⟨x60, rfl, Nq60, Kq60, -, Eq60, t60, kt60, Fq60, Sq60⟩ := hQ60
    obtain ⟨h60, eh60⟩ : ∃ h, T60.heap = h := ⟨_, rfl⟩
    rw [eh60] at Kq60 Eq60 Fq60 Sq60
    have f61 := X00.keep Kq60 (all0)
    have z62 : n0 ≤ h60.size := Nat.le_trans Z0 Kq60.1
    have N60 := Fr.app N4 Nq60
    refine Goes.on (B := T60.setTop (mkF m 46 #[.val (.int p0), .val (.int p1), .val (.int p2), .val (.int p3), .val (.int p4), .val (.int (4 : Int32)), .val (.int c0), .val (.int c1), .val (.int c2), .val (.int c3), .unset, .unset] [(.ref x60)])) (fun t k => st60 t k) ?_
    rcases Sq60 with ⟨Cq60, Aq60, hp⟩ | ⟨Cq60, Aq60⟩
    · refine Goes.on (B := T60.setTop (mkF m 58 #[.val (.int p0), .val (.int p1), .val (.int p2), .val (.int p3), .val (.int p4), .val (.int (4 : Int32)), .val (.int c0), .val (.int c1), .val (.int c2), .val (.int c3), .val (.ref x60), .val (.int (1 : Int32))] [(.int c0)])) (fun _ k => XS.astore X60.here hx rfl (hb hby at_46) rfl rfl (l' := #[.val (.int p0), .val (.int p1), .val (.int p2), .val (.int p3), .val (.int p4), .val (.int (4 : Int32)), .val (.int c0), .val (.int c1), .val (.int c2), .val (.int c3), .val (.ref x60), .unset]) rfl (XS.iconst X60.here hx rfl (hb hby at_48) (XS.istore X60.here hx rfl (hb hby at_49) rfl (l' := #[.val (.int p0), .val (.int p1), .val (.int p2), .val (.int p3), .val (.int p4), .val (.int (4 : Int32)), .val (.int c0), .val (.int c1), .val (.int c2), .val (.int c3), .val (.ref x60), .val (.int (1 : Int32))]) rfl (XS.iload X60.here hx rfl (hb hby at_51) rfl  (XS.ifNo X60.here hx rfl (hb hby at_53) rfl ((if0 _ _).trans (tlt (by decide)).2.2.2) (XS.iload X60.here hx rfl (hb hby at_56) rfl  k)))))) ?_
      obtain ⟨_, _, ⟨T63, L63, k63, n63⟩, -, X63, ⟨Lc63, hQ63, l63, y63, z63⟩, st63⟩ := Jvm.LawKit.callS X60 hx (y := (⟨"com/example/heirloom_archive/heirloomarchive/model/TextIsWhiteSpacePinLaw", "xmlSpace", "(C)Z"⟩ : MethodName)) hown (mvT hZ (hw _ (om 59 rfl))) (mvT hZ (hw _ (om 60 rfl))) (mvT hZ (hw _ (om 3 rfl))) (mvT hZ (hw _ (om 61 rfl))) (by decide) (backOf (W := 0) (rmxs l Z a0 hw [] c0 h60 n0 z62) hZ (hw _ (om 61 rfl)) (hw _ (om 3 rfl)) (by decide) (by decide)) (g := (mkF m 58 #[.val (.int p0), .val (.int p1), .val (.int p2), .val (.int p3), .val (.int p4), .val (.int (4 : Int32)), .val (.int c0), .val (.int c1), .val (.int c2), .val (.int c3), .val (.ref x60), .val (.int (1 : Int32))] [(.int c0)])) rfl (by rw [hml]; rfl) (argsL := [(.int c0)]) (rest := []) (lenOf pd_0__C_Z rfl) rfl (by show 2 * 0 + _ ≤ _; exact Nat.le_of_eq rfl) (hb hby at_58) (fun _ _ => ⟨rfl, eh60, (by decide : 4 + 0 ≤ _), (by decide : 20 + 0 ≤ _)⟩)
      dsimp only [Pt.U, Pt.locs, Pt.cells, Pt.slots] at X63 l63 y63 z63 st63 hQ63
      subst l63 y63 z63
      obtain ⟨rfl, Nq63, eh63⟩ := hQ63
      have N63 := Fr.app N60 Nq63
      refine Goes.on (B := T63.setTop (mkF m 61 #[.val (.int p0), .val (.int p1), .val (.int p2), .val (.int p3), .val (.int p4), .val (.int (4 : Int32)), .val (.int c0), .val (.int c1), .val (.int c2), .val (.int c3), .val (.ref x60), .val (.int (1 : Int32))] [(.int (own_xs c0))])) (fun t k => st63 t k) ?_
      refine Goes.via (B := T63.setTop (mkF m 67 #[.val (.int p0), .val (.int p1), .val (.int p2), .val (.int p3), .val (.int p4), .val (.int (4 : Int32)), .val (.int c0), .val (.int c1), .val (.int c2), .val (.int c3), .val (.ref x60), .val (.int (own_e (own_xs c0) (1 : Int32)))] [])) (fun J64 => ?_) ?_
      · skip
        by_cases hc61_65 : (own_xs c0) = (0 : Int32)
        · refine Goes.on (B := T63.setTop (mkF m 67 #[.val (.int p0), .val (.int p1), .val (.int p2), .val (.int p3), .val (.int p4), .val (.int (4 : Int32)), .val (.int c0), .val (.int c1), .val (.int c2), .val (.int c3), .val (.ref x60), .val (.int (0 : Int32))] [])) (fun _ k => XS.ifNo X63.here hx rfl (hb hby at_61) rfl ((if0 _ _).trans (teq hc61_65).2) (XS.iconst X63.here hx rfl (hb hby at_64) (XS.istore X63.here hx rfl (hb hby at_65) rfl (l' := #[.val (.int p0), .val (.int p1), .val (.int p2), .val (.int p3), .val (.int p4), .val (.int (4 : Int32)), .val (.int c0), .val (.int c1), .val (.int c2), .val (.int c3), .val (.ref x60), .val (.int (0 : Int32))]) rfl k))) ?_
          have hj : (own_e (own_xs c0) (1 : Int32)) = (0 : Int32) := by rw [own_e, if_pos hc61_65]
          rw [hj] at J64; exact J64
        · refine Goes.on (B := T63.setTop (mkF m 67 #[.val (.int p0), .val (.int p1), .val (.int p2), .val (.int p3), .val (.int p4), .val (.int (4 : Int32)), .val (.int c0), .val (.int c1), .val (.int c2), .val (.int c3), .val (.ref x60), .val (.int (1 : Int32))] [])) (fun _ k => XS.ifYes X63.here hx rfl (pc0 := 61) (pc' := 67) rfl (hb hby at_61) rfl ((if0 _ _).trans (feq hc61_65).2) (by decide) (by decide) k) ?_
          have hj : (own_e (own_xs c0) (1 : Int32)) = (1 : Int32) := by rw [own_e, if_neg hc61_65]
          rw [hj] at J64; exact J64
      refine Goes.on (B := T63.setTop (mkF m 75 #[.val (.int p0), .val (.int p1), .val (.int p2), .val (.int p3), .val (.int p4), .val (.int (4 : Int32)), .val (.int c0), .val (.int c1), .val (.int c2), .val (.int c3), .val (.ref x60), .val (.int (own_e (own_xs c0) (1 : Int32)))] [(.int c1)])) (fun _ k => XS.iload X63.here hx rfl (hb hby at_67) rfl  (XS.iconst X63.here hx rfl (hb hby at_69) (XS.icmpNo X63.here hx rfl (hb hby at_70) rfl (tlt (by decide)).2.2.2 (XS.iload X63.here hx rfl (hb hby at_73) rfl  k)))) ?_
      obtain ⟨_, _, ⟨T66, L66, k66, n66⟩, -, X66, ⟨Lc66, hQ66, l66, y66, z66⟩, st66⟩ := Jvm.LawKit.callS X63 hx (y := (⟨"com/example/heirloom_archive/heirloomarchive/model/TextIsWhiteSpacePinLaw", "xmlSpace", "(C)Z"⟩ : MethodName)) hown (mvT hZ (hw _ (om 59 rfl))) (mvT hZ (hw _ (om 60 rfl))) (mvT hZ (hw _ (om 3 rfl))) (mvT hZ (hw _ (om 61 rfl))) (by decide) (backOf (W := 0) (rmxs l Z a0 hw [] c1 h60 n0 z62) hZ (hw _ (om 61 rfl)) (hw _ (om 3 rfl)) (by decide) (by decide)) (g := (mkF m 75 #[.val (.int p0), .val (.int p1), .val (.int p2), .val (.int p3), .val (.int p4), .val (.int (4 : Int32)), .val (.int c0), .val (.int c1), .val (.int c2), .val (.int c3), .val (.ref x60), .val (.int (own_e (own_xs c0) (1 : Int32)))] [(.int c1)])) rfl (by rw [hml]; rfl) (argsL := [(.int c1)]) (rest := []) (lenOf pd_0__C_Z rfl) rfl (by show 2 * 0 + _ ≤ _; exact Nat.le_of_eq rfl) (hb hby at_75) (fun _ _ => ⟨rfl, eh63, (by decide : 4 + 0 ≤ _), (by decide : 20 + 0 ≤ _)⟩)
      dsimp only [Pt.U, Pt.locs, Pt.cells, Pt.slots] at X66 l66 y66 z66 st66 hQ66
      subst l66 y66 z66
      obtain ⟨rfl, Nq66, eh66⟩ := hQ66
      have N66 := Fr.app N63 Nq66
      refine Goes.on (B := T66.setTop (mkF m 78 #[.val (.int p0), .val (.int p1), .val (.int p2), .val (.int p3), .val (.int p4), .val (.int (4 : Int32)), .val (.int c0), .val (.int c1), .val (.int c2), .val (.int c3), .val (.ref x60), .val (.int (own_e (own_xs c0) (1 : Int32)))] [(.int (own_xs c1))])) (fun t k => st66 t k) ?_
      refine Goes.via (B := T66.setTop (mkF m 84 #[.val (.int p0), .val (.int p1), .val (.int p2), .val (.int p3), .val (.int p4), .val (.int (4 : Int32)), .val (.int c0), .val (.int c1), .val (.int c2), .val (.int c3), .val (.ref x60), .val (.int (own_e (own_xs c1) (own_e (own_xs c0) (1 : Int32))))] [])) (fun J67 => ?_) ?_
      · skip
        by_cases hc78_68 : (own_xs c1) = (0 : Int32)
        · refine Goes.on (B := T66.setTop (mkF m 84 #[.val (.int p0), .val (.int p1), .val (.int p2), .val (.int p3), .val (.int p4), .val (.int (4 : Int32)), .val (.int c0), .val (.int c1), .val (.int c2), .val (.int c3), .val (.ref x60), .val (.int (0 : Int32))] [])) (fun _ k => XS.ifNo X66.here hx rfl (hb hby at_78) rfl ((if0 _ _).trans (teq hc78_68).2) (XS.iconst X66.here hx rfl (hb hby at_81) (XS.istore X66.here hx rfl (hb hby at_82) rfl (l' := #[.val (.int p0), .val (.int p1), .val (.int p2), .val (.int p3), .val (.int p4), .val (.int (4 : Int32)), .val (.int c0), .val (.int c1), .val (.int c2), .val (.int c3), .val (.ref x60), .val (.int (0 : Int32))]) rfl k))) ?_
          have hj : (own_e (own_xs c1) (own_e (own_xs c0) (1 : Int32))) = (0 : Int32) := by rw [own_e, if_pos hc78_68]
          rw [hj] at J67; exact J67
        · refine Goes.on (B := T66.setTop (mkF m 84 #[.val (.int p0), .val (.int p1), .val (.int p2), .val (.int p3), .val (.int p4), .val (.int (4 : Int32)), .val (.int c0), .val (.int c1), .val (.int c2), .val (.int c3), .val (.ref x60), .val (.int (own_e (own_xs c0) (1 : Int32)))] [])) (fun _ k => XS.ifYes X66.here hx rfl (pc0 := 78) (pc' := 84) rfl (hb hby at_78) rfl ((if0 _ _).trans (feq hc78_68).2) (by decide) (by decide) k) ?_
          have hj : (own_e (own_xs c1) (own_e (own_xs c0) (1 : Int32))) = (own_e (own_xs c0) (1 : Int32)) := by rw [own_e, if_neg hc78_68]
          rw [hj] at J67; exact J67
      refine Goes.on (B := T66.setTop (mkF m 92 #[.val (.int p0), .val (.int p1), .val (.int p2), .val (.int p3), .val (.int p4), .val (.int (4 : Int32)), .val (.int c0), .val (.int c1), .val (.int c2), .val (.int c3), .val (.ref x60), .val (.int (own_e (own_xs c1) (own_e (own_xs c0) (1 : Int32))))] [(.int c2)])) (fun _ k => XS.iload X66.here hx rfl (hb hby at_84) rfl  (XS.iconst X66.here hx rfl (hb hby at_86) (XS.icmpNo X66.here hx rfl (hb hby at_87) rfl (tlt (by decide)).2.2.2 (XS.iload X66.here hx rfl (hb hby at_90) rfl  k)))) ?_
      obtain ⟨_, _, ⟨T69, L69, k69, n69⟩, -, X69, ⟨Lc69, hQ69, l69, y69, z69⟩, st69⟩ := Jvm.LawKit.callS X66 hx (y := (⟨"com/example/heirloom_archive/heirloomarchive/model/TextIsWhiteSpacePinLaw", "xmlSpace", "(C)Z"⟩ : MethodName)) hown (mvT hZ (hw _ (om 59 rfl))) (mvT hZ (hw _ (om 60 rfl))) (mvT hZ (hw _ (om 3 rfl))) (mvT hZ (hw _ (om 61 rfl))) (by decide) (backOf (W := 0) (rmxs l Z a0 hw [] c2 h60 n0 z62) hZ (hw _ (om 61 rfl)) (hw _ (om 3 rfl)) (by decide) (by decide)) (g := (mkF m 92 #[.val (.int p0), .val (.int p1), .val (.int p2), .val (.int p3), .val (.int p4), .val (.int (4 : Int32)), .val (.int c0), .val (.int c1), .val (.int c2), .val (.int c3), .val (.ref x60), .val (.int (own_e (own_xs c1) (own_e (own_xs c0) (1 : Int32))))] [(.int c2)])) rfl (by rw [hml]; rfl) (argsL := [(.int c2)]) (rest := []) (lenOf pd_0__C_Z rfl) rfl (by show 2 * 0 + _ ≤ _; exact Nat.le_of_eq rfl) (hb hby at_92) (fun _ _ => ⟨rfl, eh66, (by decide : 4 + 0 ≤ _), (by decide : 20 + 0 ≤ _)⟩)
      dsimp only [Pt.U, Pt.locs, Pt.cells, Pt.slots] at X69 l69 y69 z69 st69 hQ69
      subst l69 y69 z69
      obtain ⟨rfl, Nq69, eh69⟩ := hQ69
      have N69 := Fr.app N66 Nq69
      refine Goes.on (B := T69.setTop (mkF m 95 #[.val (.int p0), .val (.int p1), .val (.int p2), .val (.int p3), .val (.int p4), .val (.int (4 : Int32)), .val (.int c0), .val (.int c1), .val (.int c2), .val (.int c3), .val (.ref x60), .val (.int (own_e (own_xs c1) (own_e (own_xs c0) (1 : Int32))))] [(.int (own_xs c2))])) (fun t k => st69 t k) ?_
      refine Goes.via (B := T69.setTop (mkF m 101 #[.val (.int p0), .val (.int p1), .val (.int p2), .val (.int p3), .val (.int p4), .val (.int (4 : Int32)), .val (.int c0), .val (.int c1), .val (.int c2), .val (.int c3), .val (.ref x60), .val (.int (own_e (own_xs c2) (own_e (own_xs c1) (own_e (own_xs c0) (1 : Int32)))))] [])) (fun J70 => ?_) ?_
      · skip
        by_cases hc95_71 : (own_xs c2) = (0 : Int32)
        · refine Goes.on (B := T69.setTop (mkF m 101 #[.val (.int p0), .val (.int p1), .val (.int p2), .val (.int p3), .val (.int p4), .val (.int (4 : Int32)), .val (.int c0), .val (.int c1), .val (.int c2), .val (.int c3), .val (.ref x60), .val (.int (0 : Int32))] [])) (fun _ k => XS.ifNo X69.here hx rfl (hb hby at_95) rfl ((if0 _ _).trans (teq hc95_71).2) (XS.iconst X69.here hx rfl (hb hby at_98) (XS.istore X69.here hx rfl (hb hby at_99) rfl (l' := #[.val (.int p0), .val (.int p1), .val (.int p2), .val (.int p3), .val (.int p4), .val (.int (4 : Int32)), .val (.int c0), .val (.int c1), .val (.int c2), .val (.int c3), .val (.ref x60), .val (.int (0 : Int32))]) rfl k))) ?_
          have hj : (own_e (own_xs c2) (own_e (own_xs c1) (own_e (own_xs c0) (1 : Int32)))) = (0 : Int32) := by rw [own_e, if_pos hc95_71]
          rw [hj] at J70; exact J70
        · refine Goes.on (B := T69.setTop (mkF m 101 #[.val (.int p0), .val (.int p1), .val (.int p2), .val (.int p3), .val (.int p4), .val (.int (4 : Int32)), .val (.int c0), .val (.int c1), .val (.int c2), .val (.int c3), .val (.ref x60), .val (.int (own_e (own_xs c1) (own_e (own_xs c0) (1 : Int32))))] [])) (fun _ k => XS.ifYes X69.here hx rfl (pc0 := 95) (pc' := 101) rfl (hb hby at_95) rfl ((if0 _ _).trans (feq hc95_71).2) (by decide) (by decide) k) ?_
          have hj : (own_e (own_xs c2) (own_e (own_xs c1) (own_e (own_xs c0) (1 : Int32)))) = (own_e (own_xs c1) (own_e (own_xs c0) (1 : Int32))) := by rw [own_e, if_neg hc95_71]
          rw [hj] at J70; exact J70
      refine Goes.on (B := T69.setTop (mkF m 109 #[.val (.int p0), .val (.int p1), .val (.int p2), .val (.int p3), .val (.int p4), .val (.int (4 : Int32)), .val (.int c0), .val (.int c1), .val (.int c2), .val (.int c3), .val (.ref x60), .val (.int (own_e (own_xs c2) (own_e (own_xs c1) (own_e (own_xs c0) (1 : Int32)))))] [(.int c3)])) (fun _ k => XS.iload X69.here hx rfl (hb hby at_101) rfl  (XS.iconst X69.here hx rfl (hb hby at_103) (XS.icmpNo X69.here hx rfl (hb hby at_104) rfl (tlt (by decide)).2.2.2 (XS.iload X69.here hx rfl (hb hby at_107) rfl  k)))) ?_
      obtain ⟨_, _, ⟨T72, L72, k72, n72⟩, -, X72, ⟨Lc72, hQ72, l72, y72, z72⟩, st72⟩ := Jvm.LawKit.callS X69 hx (y := (⟨"com/example/heirloom_archive/heirloomarchive/model/TextIsWhiteSpacePinLaw", "xmlSpace", "(C)Z"⟩ : MethodName)) hown (mvT hZ (hw _ (om 59 rfl))) (mvT hZ (hw _ (om 60 rfl))) (mvT hZ (hw _ (om 3 rfl))) (mvT hZ (hw _ (om 61 rfl))) (by decide) (backOf (W := 0) (rmxs l Z a0 hw [] c3 h60 n0 z62) hZ (hw _ (om 61 rfl)) (hw _ (om 3 rfl)) (by decide) (by decide)) (g := (mkF m 109 #[.val (.int p0), .val (.int p1), .val (.int p2), .val (.int p3), .val (.int p4), .val (.int (4 : Int32)), .val (.int c0), .val (.int c1), .val (.int c2), .val (.int c3), .val (.ref x60), .val (.int (own_e (own_xs c2) (own_e (own_xs c1) (own_e (own_xs c0) (1 : Int32)))))] [(.int c3)])) rfl (by rw [hml]; rfl) (argsL := [(.int c3)]) (rest := []) (lenOf pd_0__C_Z rfl) rfl (by show 2 * 0 + _ ≤ _; exact Nat.le_of_eq rfl) (hb hby at_109) (fun _ _ => ⟨rfl, eh69, (by decide : 4 + 0 ≤ _), (by decide : 20 + 0 ≤ _)⟩)
      dsimp only [Pt.U, Pt.locs, Pt.cells, Pt.slots] at X72 l72 y72 z72 st72 hQ72
      subst l72 y72 z72
      obtain ⟨rfl, Nq72, eh72⟩ := hQ72
      have N72 := Fr.app N69 Nq72
      refine Goes.on (B := T72.setTop (mkF m 112 #[.val (.int p0), .val (.int p1), .val (.int p2), .val (.int p3), .val (.int p4), .val (.int (4 : Int32)), .val (.int c0), .val (.int c1), .val (.int c2), .val (.int c3), .val (.ref x60), .val (.int (own_e (own_xs c2) (own_e (own_xs c1) (own_e (own_xs c0) (1 : Int32)))))] [(.int (own_xs c3))])) (fun t k => st72 t k) ?_
      refine Goes.via (B := T72.setTop (mkF m 118 #[.val (.int p0), .val (.int p1), .val (.int p2), .val (.int p3), .val (.int p4), .val (.int (4 : Int32)), .val (.int c0), .val (.int c1), .val (.int c2), .val (.int c3), .val (.ref x60), .val (.int (own_e (own_xs c3) (own_e (own_xs c2) (own_e (own_xs c1) (own_e (own_xs c0) (1 : Int32))))))] [])) (fun J73 => ?_) ?_
      · skip
        by_cases hc112_74 : (own_xs c3) = (0 : Int32)
        · refine Goes.on (B := T72.setTop (mkF m 118 #[.val (.int p0), .val (.int p1), .val (.int p2), .val (.int p3), .val (.int p4), .val (.int (4 : Int32)), .val (.int c0), .val (.int c1), .val (.int c2), .val (.int c3), .val (.ref x60), .val (.int (0 : Int32))] [])) (fun _ k => XS.ifNo X72.here hx rfl (hb hby at_112) rfl ((if0 _ _).trans (teq hc112_74).2) (XS.iconst X72.here hx rfl (hb hby at_115) (XS.istore X72.here hx rfl (hb hby at_116) rfl (l' := #[.val (.int p0), .val (.int p1), .val (.int p2), .val (.int p3), .val (.int p4), .val (.int (4 : Int32)), .val (.int c0), .val (.int c1), .val (.int c2), .val (.int c3), .val (.ref x60), .val (.int (0 : Int32))]) rfl k))) ?_
          have hj : (own_e (own_xs c3) (own_e (own_xs c2) (own_e (own_xs c1) (own_e (own_xs c0) (1 : Int32))))) = (0 : Int32) := by rw [own_e, if_pos hc112_74]
          rw [hj] at J73; exact J73
        · refine Goes.on (B := T72.setTop (mkF m 118 #[.val (.int p0), .val (.int p1), .val (.int p2), .val (.int p3), .val (.int p4), .val (.int (4 : Int32)), .val (.int c0), .val (.int c1), .val (.int c2), .val (.int c3), .val (.ref x60), .val (.int (own_e (own_xs c2) (own_e (own_xs c1) (own_e (own_xs c0) (1 : Int32)))))] [])) (fun _ k => XS.ifYes X72.here hx rfl (pc0 := 112) (pc' := 118) rfl (hb hby at_112) rfl ((if0 _ _).trans (feq hc112_74).2) (by decide) (by decide) k) ?_
          have hj : (own_e (own_xs c3) (own_e (own_xs c2) (own_e (own_xs c1) (own_e (own_xs c0) (1 : Int32))))) = (own_e (own_xs c2) (own_e (own_xs c1) (own_e (own_xs c0) (1 : Int32)))) := by rw [own_e, if_neg hc112_74]
          rw [hj] at J73; exact J73
      refine Goes.on (B := T72.setTop (mkF m 120 #[.val (.int p0), .val (.int p1), .val (.int p2), .val (.int p3), .val (.int p4), .val (.int (4 : Int32)), .val (.int c0), .val (.int c1), .val (.int c2), .val (.int c3), .val (.ref x60), .val (.int (own_e (own_xs c3) (own_e (own_xs c2) (own_e (own_xs c1) (own_e (own_xs c0) (1 : Int32))))))] [(.ref x60)])) (fun _ k => XS.aload X72.here hx rfl (hb hby at_118) rfl rfl  k) ?_
      have hpp : ∀ q ∈ ([c0, c1, c2, c3] : List Int32), ¬ q < 0 ∧ ¬ (255 : Int32) < q := hp
      have HL : own_BL l Z h60 n0 (⟨"java/lang/String", "length", "()I"⟩ : MethodName) #[.ref x60] (4 : Int32) := own_HL l Z a0 hw x60 t60 kt60 GA GB h60 n0 SS f61 Eq60 Cq60 Fq60 ([c0, c1, c2, c3] : List Int32) (by first | decide | (simp only [List.length_cons, List.length_nil]; decide)) Aq60 hpp
      have HC0 : own_BL l Z h60 n0 (⟨"java/lang/String", "charAt", "(I)C"⟩ : MethodName) #[.ref x60, .int (0 : Int32)] c0 := own_HC l Z a0 hw x60 t60 kt60 0 (0 : Int32) GA GB h60 n0 SS f61 Eq60 Cq60 Fq60 ([c0, c1, c2, c3] : List Int32) (by first | decide | (simp only [List.length_cons, List.length_nil]; decide)) Aq60 hpp (by first | decide | (simp only [List.length_cons, List.length_nil]; decide)) rfl
      have HC1 : own_BL l Z h60 n0 (⟨"java/lang/String", "charAt", "(I)C"⟩ : MethodName) #[.ref x60, .int (1 : Int32)] c1 := own_HC l Z a0 hw x60 t60 kt60 1 (1 : Int32) GA GB h60 n0 SS f61 Eq60 Cq60 Fq60 ([c0, c1, c2, c3] : List Int32) (by first | decide | (simp only [List.length_cons, List.length_nil]; decide)) Aq60 hpp (by first | decide | (simp only [List.length_cons, List.length_nil]; decide)) rfl
      have HC2 : own_BL l Z h60 n0 (⟨"java/lang/String", "charAt", "(I)C"⟩ : MethodName) #[.ref x60, .int (2 : Int32)] c2 := own_HC l Z a0 hw x60 t60 kt60 2 (2 : Int32) GA GB h60 n0 SS f61 Eq60 Cq60 Fq60 ([c0, c1, c2, c3] : List Int32) (by first | decide | (simp only [List.length_cons, List.length_nil]; decide)) Aq60 hpp (by first | decide | (simp only [List.length_cons, List.length_nil]; decide)) rfl
      have HC3 : own_BL l Z h60 n0 (⟨"java/lang/String", "charAt", "(I)C"⟩ : MethodName) #[.ref x60, .int (3 : Int32)] c3 := own_HC l Z a0 hw x60 t60 kt60 3 (3 : Int32) GA GB h60 n0 SS f61 Eq60 Cq60 Fq60 ([c0, c1, c2, c3] : List Int32) (by first | decide | (simp only [List.length_cons, List.length_nil]; decide)) Aq60 hpp (by first | decide | (simp only [List.length_cons, List.length_nil]; decide)) rfl
      obtain ⟨_, _, ⟨T75, L75, k75, n75⟩, -, X75, ⟨Lc75, hQ75, l75, y75, z75⟩, st75⟩ := Jvm.LawKit.callS X72 hx (y := (⟨"com/example/heirloom_archive/heirloomarchive/model/Text", "isWhiteSpace", "(Ljava/lang/CharSequence;)Z"⟩ : MethodName)) hown (mvT hZ (hw _ (om 30 rfl))) (mvT hZ (hw _ (om 31 rfl))) (mvT hZ (hw _ (om 32 rfl))) (mvT hZ (hw _ (om 33 rfl))) (by decide) (backOf (W := 0) (rmiw4 l Z a0 hw [] x60 c0 c1 c2 c3 h60 n0 z62 Eq60 HL HC0 HC1 HC2 HC3) hZ (hw _ (om 33 rfl)) (hw _ (om 32 rfl)) (by decide) (by decide)) (g := (mkF m 120 #[.val (.int p0), .val (.int p1), .val (.int p2), .val (.int p3), .val (.int p4), .val (.int (4 : Int32)), .val (.int c0), .val (.int c1), .val (.int c2), .val (.int c3), .val (.ref x60), .val (.int (own_e (own_xs c3) (own_e (own_xs c2) (own_e (own_xs c1) (own_e (own_xs c0) (1 : Int32))))))] [(.ref x60)])) rfl (by rw [hml]; rfl) (argsL := [(.ref x60)]) (rest := []) (lenOf pd_0__Ljava_lang_CharSequence__Z rfl) rfl (by show 2 * 0 + _ ≤ _; exact Nat.le_of_eq rfl) (hb hby at_120) (fun _ _ => ⟨rfl, eh72, (by decide : 4 + 0 ≤ _), (by decide : 20 + 0 ≤ _)⟩)
      dsimp only [Pt.U, Pt.locs, Pt.cells, Pt.slots] at X75 l75 y75 z75 st75 hQ75
      subst l75 y75 z75
      obtain ⟨rfl, Nq75, eh75⟩ := hQ75
      have N75 := Fr.app N72 Nq75
      refine Goes.on (B := T75.setTop (mkF m 123 #[.val (.int p0), .val (.int p1), .val (.int p2), .val (.int p3), .val (.int p4), .val (.int (4 : Int32)), .val (.int c0), .val (.int c1), .val (.int c2), .val (.int c3), .val (.ref x60), .val (.int (own_e (own_xs c3) (own_e (own_xs c2) (own_e (own_xs c1) (own_e (own_xs c0) (1 : Int32))))))] [(.int (own_iw4 c0 c1 c2 c3))])) (fun t k => st75 t k) ?_
      refine Goes.on (B := T75.setTop (mkF m 133 #[.val (.int p0), .val (.int p1), .val (.int p2), .val (.int p3), .val (.int p4), .val (.int (4 : Int32)), .val (.int c0), .val (.int c1), .val (.int c2), .val (.int c3), .val (.ref x60), .val (.int (own_e (own_xs c3) (own_e (own_xs c2) (own_e (own_xs c1) (own_e (own_xs c0) (1 : Int32))))))] [(.int (1 : Int32))])) (fun _ k => XS.iload X75.here hx rfl (hb hby at_123) rfl  (XS.icmpNo X75.here hx rfl (hb hby at_125) rfl (teq (own_law4 c0 c1 c2 c3)).2 (XS.iconst X75.here hx rfl (hb hby at_128) (XS.goto X75.here hx rfl (pc0 := 129) (pc' := 133) rfl (hb hby at_129) (by decide) (by decide) k)))) ?_
      obtain ⟨fs, hr, hrun, hended, hW, hsame⟩ := X75.leave (v := some (.int (1 : Int32))) (fun h => by rw [Bd.returns] at h; cases h)
      exact Goes.leaf (retN X75 hx (t := .boolean) Bd.returns (by simp) (hb hby at_133) hr) hrun hended ⟨_, _, rfl, by show Q0 Z p0 p1 p2 p3 p4 GA GB h0 n0 _ T75.heap _; exact ⟨rfl, N75⟩, ReturnedEndW.of_narrow ⟨_, rfl⟩ hW (hsame.mono (by decide) (by decide))⟩
    · refine Goes.on (B := T60.setTop (mkF m 58 #[.val (.int p0), .val (.int p1), .val (.int p2), .val (.int p3), .val (.int p4), .val (.int (4 : Int32)), .val (.int c0), .val (.int c1), .val (.int c2), .val (.int c3), .val (.ref x60), .val (.int (1 : Int32))] [(.int c0)])) (fun _ k => XS.astore X60.here hx rfl (hb hby at_46) rfl rfl (l' := #[.val (.int p0), .val (.int p1), .val (.int p2), .val (.int p3), .val (.int p4), .val (.int (4 : Int32)), .val (.int c0), .val (.int c1), .val (.int c2), .val (.int c3), .val (.ref x60), .unset]) rfl (XS.iconst X60.here hx rfl (hb hby at_48) (XS.istore X60.here hx rfl (hb hby at_49) rfl (l' := #[.val (.int p0), .val (.int p1), .val (.int p2), .val (.int p3), .val (.int p4), .val (.int (4 : Int32)), .val (.int c0), .val (.int c1), .val (.int c2), .val (.int c3), .val (.ref x60), .val (.int (1 : Int32))]) rfl (XS.iload X60.here hx rfl (hb hby at_51) rfl  (XS.ifNo X60.here hx rfl (hb hby at_53) rfl ((if0 _ _).trans (tlt (by decide)).2.2.2) (XS.iload X60.here hx rfl (hb hby at_56) rfl  k)))))) ?_
      obtain ⟨_, _, ⟨T76, L76, k76, n76⟩, -, X76, ⟨Lc76, hQ76, l76, y76, z76⟩, st76⟩ := Jvm.LawKit.callS X60 hx (y := (⟨"com/example/heirloom_archive/heirloomarchive/model/TextIsWhiteSpacePinLaw", "xmlSpace", "(C)Z"⟩ : MethodName)) hown (mvT hZ (hw _ (om 59 rfl))) (mvT hZ (hw _ (om 60 rfl))) (mvT hZ (hw _ (om 3 rfl))) (mvT hZ (hw _ (om 61 rfl))) (by decide) (backOf (W := 0) (rmxs l Z a0 hw [] c0 h60 n0 z62) hZ (hw _ (om 61 rfl)) (hw _ (om 3 rfl)) (by decide) (by decide)) (g := (mkF m 58 #[.val (.int p0), .val (.int p1), .val (.int p2), .val (.int p3), .val (.int p4), .val (.int (4 : Int32)), .val (.int c0), .val (.int c1), .val (.int c2), .val (.int c3), .val (.ref x60), .val (.int (1 : Int32))] [(.int c0)])) rfl (by rw [hml]; rfl) (argsL := [(.int c0)]) (rest := []) (lenOf pd_0__C_Z rfl) rfl (by show 2 * 0 + _ ≤ _; exact Nat.le_of_eq rfl) (hb hby at_58) (fun _ _ => ⟨rfl, eh60, (by decide : 4 + 0 ≤ _), (by decide : 20 + 0 ≤ _)⟩)
      dsimp only [Pt.U, Pt.locs, Pt.cells, Pt.slots] at X76 l76 y76 z76 st76 hQ76
      subst l76 y76 z76
      obtain ⟨rfl, Nq76, eh76⟩ := hQ76
      have N76 := Fr.app N60 Nq76
      refine Goes.on (B := T76.setTop (mkF m 61 #[.val (.int p0), .val (.int p1), .val (.int p2), .val (.int p3), .val (.int p4), .val (.int (4 : Int32)), .val (.int c0), .val (.int c1), .val (.int c2), .val (.int c3), .val (.ref x60), .val (.int (1 : Int32))] [(.int (own_xs c0))])) (fun t k => st76 t k) ?_
      refine Goes.via (B := T76.setTop (mkF m 67 #[.val (.int p0), .val (.int p1), .val (.int p2), .val (.int p3), .val (.int p4), .val (.int (4 : Int32)), .val (.int c0), .val (.int c1), .val (.int c2), .val (.int c3), .val (.ref x60), .val (.int (own_e (own_xs c0) (1 : Int32)))] [])) (fun J77 => ?_) ?_
      · skip
        by_cases hc61_78 : (own_xs c0) = (0 : Int32)
        · refine Goes.on (B := T76.setTop (mkF m 67 #[.val (.int p0), .val (.int p1), .val (.int p2), .val (.int p3), .val (.int p4), .val (.int (4 : Int32)), .val (.int c0), .val (.int c1), .val (.int c2), .val (.int c3), .val (.ref x60), .val (.int (0 : Int32))] [])) (fun _ k => XS.ifNo X76.here hx rfl (hb hby at_61) rfl ((if0 _ _).trans (teq hc61_78).2) (XS.iconst X76.here hx rfl (hb hby at_64) (XS.istore X76.here hx rfl (hb hby at_65) rfl (l' := #[.val (.int p0), .val (.int p1), .val (.int p2), .val (.int p3), .val (.int p4), .val (.int (4 : Int32)), .val (.int c0), .val (.int c1), .val (.int c2), .val (.int c3), .val (.ref x60), .val (.int (0 : Int32))]) rfl k))) ?_
          have hj : (own_e (own_xs c0) (1 : Int32)) = (0 : Int32) := by rw [own_e, if_pos hc61_78]
          rw [hj] at J77; exact J77
        · refine Goes.on (B := T76.setTop (mkF m 67 #[.val (.int p0), .val (.int p1), .val (.int p2), .val (.int p3), .val (.int p4), .val (.int (4 : Int32)), .val (.int c0), .val (.int c1), .val (.int c2), .val (.int c3), .val (.ref x60), .val (.int (1 : Int32))] [])) (fun _ k => XS.ifYes X76.here hx rfl (pc0 := 61) (pc' := 67) rfl (hb hby at_61) rfl ((if0 _ _).trans (feq hc61_78).2) (by decide) (by decide) k) ?_
          have hj : (own_e (own_xs c0) (1 : Int32)) = (1 : Int32) := by rw [own_e, if_neg hc61_78]
          rw [hj] at J77; exact J77
      refine Goes.on (B := T76.setTop (mkF m 75 #[.val (.int p0), .val (.int p1), .val (.int p2), .val (.int p3), .val (.int p4), .val (.int (4 : Int32)), .val (.int c0), .val (.int c1), .val (.int c2), .val (.int c3), .val (.ref x60), .val (.int (own_e (own_xs c0) (1 : Int32)))] [(.int c1)])) (fun _ k => XS.iload X76.here hx rfl (hb hby at_67) rfl  (XS.iconst X76.here hx rfl (hb hby at_69) (XS.icmpNo X76.here hx rfl (hb hby at_70) rfl (tlt (by decide)).2.2.2 (XS.iload X76.here hx rfl (hb hby at_73) rfl  k)))) ?_
      obtain ⟨_, _, ⟨T79, L79, k79, n79⟩, -, X79, ⟨Lc79, hQ79, l79, y79, z79⟩, st79⟩ := Jvm.LawKit.callS X76 hx (y := (⟨"com/example/heirloom_archive/heirloomarchive/model/TextIsWhiteSpacePinLaw", "xmlSpace", "(C)Z"⟩ : MethodName)) hown (mvT hZ (hw _ (om 59 rfl))) (mvT hZ (hw _ (om 60 rfl))) (mvT hZ (hw _ (om 3 rfl))) (mvT hZ (hw _ (om 61 rfl))) (by decide) (backOf (W := 0) (rmxs l Z a0 hw [] c1 h60 n0 z62) hZ (hw _ (om 61 rfl)) (hw _ (om 3 rfl)) (by decide) (by decide)) (g := (mkF m 75 #[.val (.int p0), .val (.int p1), .val (.int p2), .val (.int p3), .val (.int p4), .val (.int (4 : Int32)), .val (.int c0), .val (.int c1), .val (.int c2), .val (.int c3), .val (.ref x60), .val (.int (own_e (own_xs c0) (1 : Int32)))] [(.int c1)])) rfl (by rw [hml]; rfl) (argsL := [(.int c1)]) (rest := []) (lenOf pd_0__C_Z rfl) rfl (by show 2 * 0 + _ ≤ _; exact Nat.le_of_eq rfl) (hb hby at_75) (fun _ _ => ⟨rfl, eh76, (by decide : 4 + 0 ≤ _), (by decide : 20 + 0 ≤ _)⟩)
      dsimp only [Pt.U, Pt.locs, Pt.cells, Pt.slots] at X79 l79 y79 z79 st79 hQ79
      subst l79 y79 z79
      obtain ⟨rfl, Nq79, eh79⟩ := hQ79
      have N79 := Fr.app N76 Nq79
      refine Goes.on (B := T79.setTop (mkF m 78 #[.val (.int p0), .val (.int p1), .val (.int p2), .val (.int p3), .val (.int p4), .val (.int (4 : Int32)), .val (.int c0), .val (.int c1), .val (.int c2), .val (.int c3), .val (.ref x60), .val (.int (own_e (own_xs c0) (1 : Int32)))] [(.int (own_xs c1))])) (fun t k => st79 t k) ?_
      refine Goes.via (B := T79.setTop (mkF m 84 #[.val (.int p0), .val (.int p1), .val (.int p2), .val (.int p3), .val (.int p4), .val (.int (4 : Int32)), .val (.int c0), .val (.int c1), .val (.int c2), .val (.int c3), .val (.ref x60), .val (.int (own_e (own_xs c1) (own_e (own_xs c0) (1 : Int32))))] [])) (fun J80 => ?_) ?_
      · skip
        by_cases hc78_81 : (own_xs c1) = (0 : Int32)
        · refine Goes.on (B := T79.setTop (mkF m 84 #[.val (.int p0), .val (.int p1), .val (.int p2), .val (.int p3), .val (.int p4), .val (.int (4 : Int32)), .val (.int c0), .val (.int c1), .val (.int c2), .val (.int c3), .val (.ref x60), .val (.int (0 : Int32))] [])) (fun _ k => XS.ifNo X79.here hx rfl (hb hby at_78) rfl ((if0 _ _).trans (teq hc78_81).2) (XS.iconst X79.here hx rfl (hb hby at_81) (XS.istore X79.here hx rfl (hb hby at_82) rfl (l' := #[.val (.int p0), .val (.int p1), .val (.int p2), .val (.int p3), .val (.int p4), .val (.int (4 : Int32)), .val (.int c0), .val (.int c1), .val (.int c2), .val (.int c3), .val (.ref x60), .val (.int (0 : Int32))]) rfl k))) ?_
          have hj : (own_e (own_xs c1) (own_e (own_xs c0) (1 : Int32))) = (0 : Int32) := by rw [own_e, if_pos hc78_81]
          rw [hj] at J80; exact J80
        · refine Goes.on (B := T79.setTop (mkF m 84 #[.val (.int p0), .val (.int p1), .val (.int p2), .val (.int p3), .val (.int p4), .val (.int (4 : Int32)), .val (.int c0), .val (.int c1), .val (.int c2), .val (.int c3), .val (.ref x60), .val (.int (own_e (own_xs c0) (1 : Int32)))] [])) (fun _ k => XS.ifYes X79.here hx rfl (pc0 := 78) (pc' := 84) rfl (hb hby at_78) rfl ((if0 _ _).trans (feq hc78_81).2) (by decide) (by decide) k) ?_
          have hj : (own_e (own_xs c1) (own_e (own_xs c0) (1 : Int32))) = (own_e (own_xs c0) (1 : Int32)) := by rw [own_e, if_neg hc78_81]
          rw [hj] at J80; exact J80
      refine Goes.on (B := T79.setTop (mkF m 92 #[.val (.int p0), .val (.int p1), .val (.int p2), .val (.int p3), .val (.int p4), .val (.int (4 : Int32)), .val (.int c0), .val (.int c1), .val (.int c2), .val (.int c3), .val (.ref x60), .val (.int (own_e (own_xs c1) (own_e (own_xs c0) (1 : Int32))))] [(.int c2)])) (fun _ k => XS.iload X79.here hx rfl (hb hby at_84) rfl  (XS.iconst X79.here hx rfl (hb hby at_86) (XS.icmpNo X79.here hx rfl (hb hby at_87) rfl (tlt (by decide)).2.2.2 (XS.iload X79.here hx rfl (hb hby at_90) rfl  k)))) ?_
      obtain ⟨_, _, ⟨T82, L82, k82, n82⟩, -, X82, ⟨Lc82, hQ82, l82, y82, z82⟩, st82⟩ := Jvm.LawKit.callS X79 hx (y := (⟨"com/example/heirloom_archive/heirloomarchive/model/TextIsWhiteSpacePinLaw", "xmlSpace", "(C)Z"⟩ : MethodName)) hown (mvT hZ (hw _ (om 59 rfl))) (mvT hZ (hw _ (om 60 rfl))) (mvT hZ (hw _ (om 3 rfl))) (mvT hZ (hw _ (om 61 rfl))) (by decide) (backOf (W := 0) (rmxs l Z a0 hw [] c2 h60 n0 z62) hZ (hw _ (om 61 rfl)) (hw _ (om 3 rfl)) (by decide) (by decide)) (g := (mkF m 92 #[.val (.int p0), .val (.int p1), .val (.int p2), .val (.int p3), .val (.int p4), .val (.int (4 : Int32)), .val (.int c0), .val (.int c1), .val (.int c2), .val (.int c3), .val (.ref x60), .val (.int (own_e (own_xs c1) (own_e (own_xs c0) (1 : Int32))))] [(.int c2)])) rfl (by rw [hml]; rfl) (argsL := [(.int c2)]) (rest := []) (lenOf pd_0__C_Z rfl) rfl (by show 2 * 0 + _ ≤ _; exact Nat.le_of_eq rfl) (hb hby at_92) (fun _ _ => ⟨rfl, eh79, (by decide : 4 + 0 ≤ _), (by decide : 20 + 0 ≤ _)⟩)
      dsimp only [Pt.U, Pt.locs, Pt.cells, Pt.slots] at X82 l82 y82 z82 st82 hQ82
      subst l82 y82 z82
      obtain ⟨rfl, Nq82, eh82⟩ := hQ82
      have N82 := Fr.app N79 Nq82
      refine Goes.on (B := T82.setTop (mkF m 95 #[.val (.int p0), .val (.int p1), .val (.int p2), .val (.int p3), .val (.int p4), .val (.int (4 : Int32)), .val (.int c0), .val (.int c1), .val (.int c2), .val (.int c3), .val (.ref x60), .val (.int (own_e (own_xs c1) (own_e (own_xs c0) (1 : Int32))))] [(.int (own_xs c2))])) (fun t k => st82 t k) ?_
      refine Goes.via (B := T82.setTop (mkF m 101 #[.val (.int p0), .val (.int p1), .val (.int p2), .val (.int p3), .val (.int p4), .val (.int (4 : Int32)), .val (.int c0), .val (.int c1), .val (.int c2), .val (.int c3), .val (.ref x60), .val (.int (own_e (own_xs c2) (own_e (own_xs c1) (own_e (own_xs c0) (1 : Int32)))))] [])) (fun J83 => ?_) ?_
      · skip
        by_cases hc95_84 : (own_xs c2) = (0 : Int32)
        · refine Goes.on (B := T82.setTop (mkF m 101 #[.val (.int p0), .val (.int p1), .val (.int p2), .val (.int p3), .val (.int p4), .val (.int (4 : Int32)), .val (.int c0), .val (.int c1), .val (.int c2), .val (.int c3), .val (.ref x60), .val (.int (0 : Int32))] [])) (fun _ k => XS.ifNo X82.here hx rfl (hb hby at_95) rfl ((if0 _ _).trans (teq hc95_84).2) (XS.iconst X82.here hx rfl (hb hby at_98) (XS.istore X82.here hx rfl (hb hby at_99) rfl (l' := #[.val (.int p0), .val (.int p1), .val (.int p2), .val (.int p3), .val (.int p4), .val (.int (4 : Int32)), .val (.int c0), .val (.int c1), .val (.int c2), .val (.int c3), .val (.ref x60), .val (.int (0 : Int32))]) rfl k))) ?_
          have hj : (own_e (own_xs c2) (own_e (own_xs c1) (own_e (own_xs c0) (1 : Int32)))) = (0 : Int32) := by rw [own_e, if_pos hc95_84]
          rw [hj] at J83; exact J83
        · refine Goes.on (B := T82.setTop (mkF m 101 #[.val (.int p0), .val (.int p1), .val (.int p2), .val (.int p3), .val (.int p4), .val (.int (4 : Int32)), .val (.int c0), .val (.int c1), .val (.int c2), .val (.int c3), .val (.ref x60), .val (.int (own_e (own_xs c1) (own_e (own_xs c0) (1 : Int32))))] [])) (fun _ k => XS.ifYes X82.here hx rfl (pc0 := 95) (pc' := 101) rfl (hb hby at_95) rfl ((if0 _ _).trans (feq hc95_84).2) (by decide) (by decide) k) ?_
          have hj : (own_e (own_xs c2) (own_e (own_xs c1) (own_e (own_xs c0) (1 : Int32)))) = (own_e (own_xs c1) (own_e (own_xs c0) (1 : Int32))) := by rw [own_e, if_neg hc95_84]
          rw [hj] at J83; exact J83
      refine Goes.on (B := T82.setTop (mkF m 109 #[.val (.int p0), .val (.int p1), .val (.int p2), .val (.int p3), .val (.int p4), .val (.int (4 : Int32)), .val (.int c0), .val (.int c1), .val (.int c2), .val (.int c3), .val (.ref x60), .val (.int (own_e (own_xs c2) (own_e (own_xs c1) (own_e (own_xs c0) (1 : Int32)))))] [(.int c3)])) (fun _ k => XS.iload X82.here hx rfl (hb hby at_101) rfl  (XS.iconst X82.here hx rfl (hb hby at_103) (XS.icmpNo X82.here hx rfl (hb hby at_104) rfl (tlt (by decide)).2.2.2 (XS.iload X82.here hx rfl (hb hby at_107) rfl  k)))) ?_
      obtain ⟨_, _, ⟨T85, L85, k85, n85⟩, -, X85, ⟨Lc85, hQ85, l85, y85, z85⟩, st85⟩ := Jvm.LawKit.callS X82 hx (y := (⟨"com/example/heirloom_archive/heirloomarchive/model/TextIsWhiteSpacePinLaw", "xmlSpace", "(C)Z"⟩ : MethodName)) hown (mvT hZ (hw _ (om 59 rfl))) (mvT hZ (hw _ (om 60 rfl))) (mvT hZ (hw _ (om 3 rfl))) (mvT hZ (hw _ (om 61 rfl))) (by decide) (backOf (W := 0) (rmxs l Z a0 hw [] c3 h60 n0 z62) hZ (hw _ (om 61 rfl)) (hw _ (om 3 rfl)) (by decide) (by decide)) (g := (mkF m 109 #[.val (.int p0), .val (.int p1), .val (.int p2), .val (.int p3), .val (.int p4), .val (.int (4 : Int32)), .val (.int c0), .val (.int c1), .val (.int c2), .val (.int c3), .val (.ref x60), .val (.int (own_e (own_xs c2) (own_e (own_xs c1) (own_e (own_xs c0) (1 : Int32)))))] [(.int c3)])) rfl (by rw [hml]; rfl) (argsL := [(.int c3)]) (rest := []) (lenOf pd_0__C_Z rfl) rfl (by show 2 * 0 + _ ≤ _; exact Nat.le_of_eq rfl) (hb hby at_109) (fun _ _ => ⟨rfl, eh82, (by decide : 4 + 0 ≤ _), (by decide : 20 + 0 ≤ _)⟩)
      dsimp only [Pt.U, Pt.locs, Pt.cells, Pt.slots] at X85 l85 y85 z85 st85 hQ85
      subst l85 y85 z85
      obtain ⟨rfl, Nq85, eh85⟩ := hQ85
      have N85 := Fr.app N82 Nq85
      refine Goes.on (B := T85.setTop (mkF m 112 #[.val (.int p0), .val (.int p1), .val (.int p2), .val (.int p3), .val (.int p4), .val (.int (4 : Int32)), .val (.int c0), .val (.int c1), .val (.int c2), .val (.int c3), .val (.ref x60), .val (.int (own_e (own_xs c2) (own_e (own_xs c1) (own_e (own_xs c0) (1 : Int32)))))] [(.int (own_xs c3))])) (fun t k => st85 t k) ?_
      refine Goes.via (B := T85.setTop (mkF m 118 #[.val (.int p0), .val (.int p1), .val (.int p2), .val (.int p3), .val (.int p4), .val (.int (4 : Int32)), .val (.int c0), .val (.int c1), .val (.int c2), .val (.int c3), .val (.ref x60), .val (.int (own_e (own_xs c3) (own_e (own_xs c2) (own_e (own_xs c1) (own_e (own_xs c0) (1 : Int32))))))] [])) (fun J86 => ?_) ?_
      · skip
        by_cases hc112_87 : (own_xs c3) = (0 : Int32)
        · refine Goes.on (B := T85.setTop (mkF m 118 #[.val (.int p0), .val (.int p1), .val (.int p2), .val (.int p3), .val (.int p4), .val (.int (4 : Int32)), .val (.int c0), .val (.int c1), .val (.int c2), .val (.int c3), .val (.ref x60), .val (.int (0 : Int32))] [])) (fun _ k => XS.ifNo X85.here hx rfl (hb hby at_112) rfl ((if0 _ _).trans (teq hc112_87).2) (XS.iconst X85.here hx rfl (hb hby at_115) (XS.istore X85.here hx rfl (hb hby at_116) rfl (l' := #[.val (.int p0), .val (.int p1), .val (.int p2), .val (.int p3), .val (.int p4), .val (.int (4 : Int32)), .val (.int c0), .val (.int c1), .val (.int c2), .val (.int c3), .val (.ref x60), .val (.int (0 : Int32))]) rfl k))) ?_
          have hj : (own_e (own_xs c3) (own_e (own_xs c2) (own_e (own_xs c1) (own_e (own_xs c0) (1 : Int32))))) = (0 : Int32) := by rw [own_e, if_pos hc112_87]
          rw [hj] at J86; exact J86
        · refine Goes.on (B := T85.setTop (mkF m 118 #[.val (.int p0), .val (.int p1), .val (.int p2), .val (.int p3), .val (.int p4), .val (.int (4 : Int32)), .val (.int c0), .val (.int c1), .val (.int c2), .val (.int c3), .val (.ref x60), .val (.int (own_e (own_xs c2) (own_e (own_xs c1) (own_e (own_xs c0) (1 : Int32)))))] [])) (fun _ k => XS.ifYes X85.here hx rfl (pc0 := 112) (pc' := 118) rfl (hb hby at_112) rfl ((if0 _ _).trans (feq hc112_87).2) (by decide) (by decide) k) ?_
          have hj : (own_e (own_xs c3) (own_e (own_xs c2) (own_e (own_xs c1) (own_e (own_xs c0) (1 : Int32))))) = (own_e (own_xs c2) (own_e (own_xs c1) (own_e (own_xs c0) (1 : Int32)))) := by rw [own_e, if_neg hc112_87]
          rw [hj] at J86; exact J86
      refine Goes.on (B := T85.setTop (mkF m 120 #[.val (.int p0), .val (.int p1), .val (.int p2), .val (.int p3), .val (.int p4), .val (.int (4 : Int32)), .val (.int c0), .val (.int c1), .val (.int c2), .val (.int c3), .val (.ref x60), .val (.int (own_e (own_xs c3) (own_e (own_xs c2) (own_e (own_xs c1) (own_e (own_xs c0) (1 : Int32))))))] [(.ref x60)])) (fun _ k => XS.aload X85.here hx rfl (hb hby at_118) rfl rfl  k) ?_
      have HL : own_BL l Z h60 n0 (⟨"java/lang/String", "length", "()I"⟩ : MethodName) #[.ref x60] (4 : Int32) := own_WL l Z a0 hw x60 t60 kt60 (8 : Int32) [(.int (bA c0)), (.int (bB c0)), (.int (bA c1)), (.int (bB c1)), (.int (bA c2)), (.int (bB c2)), (.int (bA c3)), (.int (bB c3))] GA GB h60 n0 z62 SS f61 Eq60 Cq60 Fq60 Aq60
      have HC0 : own_BL l Z h60 n0 (⟨"java/lang/String", "charAt", "(I)C"⟩ : MethodName) #[.ref x60, .int (0 : Int32)] c0 := own_WC l Z a0 hw x60 t60 kt60 (8 : Int32) [(.int (bA c0)), (.int (bB c0)), (.int (bA c1)), (.int (bB c1)), (.int (bA c2)), (.int (bB c2)), (.int (bA c3)), (.int (bB c3))] (0 : Int32) c0 GA GB h60 n0 z62 SS f61 Eq60 Cq60 Fq60 Aq60 ⟨by decide, by decide⟩ ⟨by decide, by decide⟩ rfl rfl r0 (by decide) (by decide)
      have HC1 : own_BL l Z h60 n0 (⟨"java/lang/String", "charAt", "(I)C"⟩ : MethodName) #[.ref x60, .int (1 : Int32)] c1 := own_WC l Z a0 hw x60 t60 kt60 (8 : Int32) [(.int (bA c0)), (.int (bB c0)), (.int (bA c1)), (.int (bB c1)), (.int (bA c2)), (.int (bB c2)), (.int (bA c3)), (.int (bB c3))] (1 : Int32) c1 GA GB h60 n0 z62 SS f61 Eq60 Cq60 Fq60 Aq60 ⟨by decide, by decide⟩ ⟨by decide, by decide⟩ rfl rfl r1 (by decide) (by decide)
      have HC2 : own_BL l Z h60 n0 (⟨"java/lang/String", "charAt", "(I)C"⟩ : MethodName) #[.ref x60, .int (2 : Int32)] c2 := own_WC l Z a0 hw x60 t60 kt60 (8 : Int32) [(.int (bA c0)), (.int (bB c0)), (.int (bA c1)), (.int (bB c1)), (.int (bA c2)), (.int (bB c2)), (.int (bA c3)), (.int (bB c3))] (2 : Int32) c2 GA GB h60 n0 z62 SS f61 Eq60 Cq60 Fq60 Aq60 ⟨by decide, by decide⟩ ⟨by decide, by decide⟩ rfl rfl r2 (by decide) (by decide)
      have HC3 : own_BL l Z h60 n0 (⟨"java/lang/String", "charAt", "(I)C"⟩ : MethodName) #[.ref x60, .int (3 : Int32)] c3 := own_WC l Z a0 hw x60 t60 kt60 (8 : Int32) [(.int (bA c0)), (.int (bB c0)), (.int (bA c1)), (.int (bB c1)), (.int (bA c2)), (.int (bB c2)), (.int (bA c3)), (.int (bB c3))] (3 : Int32) c3 GA GB h60 n0 z62 SS f61 Eq60 Cq60 Fq60 Aq60 ⟨by decide, by decide⟩ ⟨by decide, by decide⟩ rfl rfl r3 (by decide) (by decide)
      obtain ⟨_, _, ⟨T88, L88, k88, n88⟩, -, X88, ⟨Lc88, hQ88, l88, y88, z88⟩, st88⟩ := Jvm.LawKit.callS X85 hx (y := (⟨"com/example/heirloom_archive/heirloomarchive/model/Text", "isWhiteSpace", "(Ljava/lang/CharSequence;)Z"⟩ : MethodName)) hown (mvT hZ (hw _ (om 30 rfl))) (mvT hZ (hw _ (om 31 rfl))) (mvT hZ (hw _ (om 32 rfl))) (mvT hZ (hw _ (om 33 rfl))) (by decide) (backOf (W := 0) (rmiw4 l Z a0 hw [] x60 c0 c1 c2 c3 h60 n0 z62 Eq60 HL HC0 HC1 HC2 HC3) hZ (hw _ (om 33 rfl)) (hw _ (om 32 rfl)) (by decide) (by decide)) (g := (mkF m 120 #[.val (.int p0), .val (.int p1), .val (.int p2), .val (.int p3), .val (.int p4), .val (.int (4 : Int32)), .val (.int c0), .val (.int c1), .val (.int c2), .val (.int c3), .val (.ref x60), .val (.int (own_e (own_xs c3) (own_e (own_xs c2) (own_e (own_xs c1) (own_e (own_xs c0) (1 : Int32))))))] [(.ref x60)])) rfl (by rw [hml]; rfl) (argsL := [(.ref x60)]) (rest := []) (lenOf pd_0__Ljava_lang_CharSequence__Z rfl) rfl (by show 2 * 0 + _ ≤ _; exact Nat.le_of_eq rfl) (hb hby at_120) (fun _ _ => ⟨rfl, eh85, (by decide : 4 + 0 ≤ _), (by decide : 20 + 0 ≤ _)⟩)
      dsimp only [Pt.U, Pt.locs, Pt.cells, Pt.slots] at X88 l88 y88 z88 st88 hQ88
      subst l88 y88 z88
      obtain ⟨rfl, Nq88, eh88⟩ := hQ88
      have N88 := Fr.app N85 Nq88
      refine Goes.on (B := T88.setTop (mkF m 123 #[.val (.int p0), .val (.int p1), .val (.int p2), .val (.int p3), .val (.int p4), .val (.int (4 : Int32)), .val (.int c0), .val (.int c1), .val (.int c2), .val (.int c3), .val (.ref x60), .val (.int (own_e (own_xs c3) (own_e (own_xs c2) (own_e (own_xs c1) (own_e (own_xs c0) (1 : Int32))))))] [(.int (own_iw4 c0 c1 c2 c3))])) (fun t k => st88 t k) ?_
      refine Goes.on (B := T88.setTop (mkF m 133 #[.val (.int p0), .val (.int p1), .val (.int p2), .val (.int p3), .val (.int p4), .val (.int (4 : Int32)), .val (.int c0), .val (.int c1), .val (.int c2), .val (.int c3), .val (.ref x60), .val (.int (own_e (own_xs c3) (own_e (own_xs c2) (own_e (own_xs c1) (own_e (own_xs c0) (1 : Int32))))))] [(.int (1 : Int32))])) (fun _ k => XS.iload X88.here hx rfl (hb hby at_123) rfl  (XS.icmpNo X88.here hx rfl (hb hby at_125) rfl (teq (own_law4 c0 c1 c2 c3)).2 (XS.iconst X88.here hx rfl (hb hby at_128) (XS.goto X88.here hx rfl (pc0 := 129) (pc' := 133) rfl (hb hby at_129) (by decide) (by decide) k)))) ?_
      obtain ⟨fs, hr, hrun, hended, hW, hsame⟩ := X88.leave (v := some (.int (1 : Int32))) (fun h => by rw [Bd.returns] at h; cases h)
      exact Goes.leaf (retN X88 hx (t := .boolean) Bd.returns (by simp) (hb hby at_133) hr) hrun hended ⟨_, _, rfl, by show Q0 Z p0 p1 p2 p3 p4 GA GB h0 n0 _ T88.heap _; exact ⟨rfl, N88⟩, ReturnedEndW.of_narrow ⟨_, rfl⟩ hW (hsame.mono (by decide) (by decide))⟩
set_option maxRecDepth 65536 in
set_option maxHeartbeats 40000000 in
theorem comes_1 {Post : Tables → Env → Array Value → State → Outcome → State → Prop} (hpost : ∀ tb e args s v u, (limb_1_1.after args s (.returned v) u = true ∧ limb_1_2.after args s (.returned v) u = true ∧ True) → ReturnedEndW s (.returned v) u (Jvm.fieldLocs frame_1_writes args s ++ Jvm.arrayLocs frame_1_arrays args s ++ Jvm.staticLocs frame_1_statics s) 24 1152 → Post tb e args s (.returned v) u) :
    ArmFor flags0 classFile x code maxLocals ret World_1 tables_1 room_1 Calls_1 rest_1 Pre_1 Post := by
  intro l hfl _ _ p e ha hc hk s m args below hf hA hF happ hP
  obtain ⟨hcalls, hrest, hpre⟩ := hP
  obtain ⟨-, -, -, hnamed, -, -, -, hat⟩ := (Spec.applies_iff hf).mp happ
  obtain ⟨hg, hn⟩ := and_e (Cond.before_iff.mp (show (Jvm.Cond.and given_1 narrow_1).before args s = true from hpre))
  obtain ⟨hg0, hg0r⟩ := and_e hg
  obtain ⟨hg1, hg1r⟩ := and_e hg0r
  obtain ⟨hg2, hg2r⟩ := and_e hg1r
  obtain ⟨hg3, hg3r⟩ := and_e hg2r
  obtain ⟨hg4, hg4r⟩ := and_e hg3r
  obtain ⟨w0, w1, w2, w3, w4, rfl⟩ : ∃ w0 w1 w2 w3 w4 : Value, args = #[w0, w1, w2, w3, w4] := by
    have hs : args.size = 5 := by simpa [Cond.value, given_1] using hg0
    obtain ⟨L⟩ := args
    match L, hs with
    | [w0, w1, w2, w3, w4], _ => exact ⟨w0, w1, w2, w3, w4, rfl⟩
  have hw := fun d (hd : d ∈ tables_1) => atoms_spec (ws := Jvm.Cond.code x code maxLocals ret :: tables_1) hat d (List.mem_cons_of_mem _ hd)
  have hfit : Fit s := fun {y c} hc i hi => by
    obtain ⟨ha, rfl⟩ := Array.getElem?_eq_some_iff.mp hc
    have q := List.all_eq_true.mp ((Array.all_eq_true_iff_forall_mem.mp hF) _ (Array.getElem_mem ha)) i (List.mem_range.mpr hi)
    simpa [Array.getElem?_eq_getElem hi] using q
  obtain ⟨hsets, hown0⟩ := atoms_of _ (rest_1_c_eq ▸ (show rest_1_c.before _ s = true from hrest))
  have hr0 := Cond.before_iff.mp hown0
  obtain ⟨i0, ei0⟩ := is_v hg1
  obtain rfl : w0 = (.int i0) := Option.some.inj ei0
  obtain ⟨i1, ei1⟩ := is_v hg2
  obtain rfl : w1 = (.int i1) := Option.some.inj ei1
  obtain ⟨i2, ei2⟩ := is_v hg3
  obtain rfl : w2 = (.int i2) := Option.some.inj ei2
  obtain ⟨i3, ei3⟩ := is_v hg4
  obtain rfl : w3 = (.int i3) := Option.some.inj ei3
  obtain ⟨i4, ei4⟩ := is_v hg4r
  obtain rfl : w4 = (.int i4) := Option.some.inj ei4
  have n5 := not_v (Cond.before_iff.mp (hsets _ (om 2 rfl)))
  obtain ⟨j1, ej1⟩ := is_v (Cond.before_iff.mp (hsets _ (om 1 rfl)))
  have S12 : Sta s s.heap "java/lang/String" "COMPACT_STRINGS" "Z" (.int j1) := Sta.start ej1 (Or.inl (hsets _ (om 0 rfl)))
  have c17 : ¬ (j1 = (0 : Int32)) := gotF (Cond.eq_ints ej1 (Term.int_eval (0))) n5
  obtain ⟨v13, e14, r15⟩ := isR_v (Cond.before_iff.mp (hsets _ (om 8 rfl)))
  have S16 : Sta s s.heap "jdk/internal/util/Preconditions" "SIOOBE_FORMATTER" "Ljava/util/function/BiFunction;" v13 := Sta.start e14 (Or.inl (hsets _ (om 7 rfl)))
  have SA : Sta s s.heap "java/lang/StringUTF16" "$assertionsDisabled" "Z" (.int (1 : Int32)) := Sta.start (own_eI (Cond.before_iff.mp (hsets _ (om 12 rfl)))) (Or.inl (hsets _ (om 11 rfl)))
  have SH : Sta s s.heap "java/lang/StringUTF16" "HI_BYTE_SHIFT" "I" (.int (0 : Int32)) := Sta.start (own_eI (Cond.before_iff.mp (hsets _ (om 15 rfl)))) (Or.inl (hsets _ (om 14 rfl)))
  have SL : Sta s s.heap "java/lang/StringUTF16" "LO_BYTE_SHIFT" "I" (.int (8 : Int32)) := Sta.start (own_eI (Cond.before_iff.mp (hsets _ (om 18 rfl)))) (Or.inl (hsets _ (om 17 rfl)))
  have SS1 : own_St s j1 v13 := ⟨S12, c17, S16, r15, SA, SH, SL⟩
  obtain ⟨n, o, h1, h2, h3, _, L, rfl, ⟨rfl, N⟩, hq⟩ := rm0 l s _ hw tables_1 i0 i1 i2 i3 i4 j1 v13 s.heap s.heap.size (Nat.le_refl _) SS1 (Old.start s) (hsets _ (om 2 rfl)) (hcalls.1 _ (List.mem_cons_self ..)) p e ha hc hk s m _ below hf ((Spec.applies_iff_loose hf).mp happ).1 ⟨rfl, State.Warmed39.refl s, rfl, rfl⟩ trivial
  refine ⟨n, _, h1, h2, h3, hpost _ _ _ _ _ _ ⟨Cond.after_iff.mpr rfl, Cond.after_iff.mpr (eq_i res_at (Term.int_eval (1)) rfl), trivial⟩ ⟨hq.1, hq.2.1, hq.2.2.1, (hq.2.2.2.sift fun y hy => Or.inr (N y hy)).mono (by decide) (by decide)⟩⟩
theorem main_1_1 : Claimed_1_1 := comes_1 fun _ _ _ _ _ _ h hF => ⟨h.1, hF⟩
theorem main_1_2 : Claimed_1_2 := comes_1 fun _ _ _ _ _ _ h hF => ⟨h.2.1, hF⟩
end Jvm.Pilot.@@N@@
namespace Jvm.Pilot.@@N@@
open Jvm Jvm.ClassFile Sem Op Lib Jvm.Free Jvm.Stand Jvm.Pilot.@@N@@.Jvm.D
/-! MADE BY PROGRAM (witnessworld.py) out of the Statement's table words and the real class files: 22 classes; the members and pool entries that the words name. The judged class is class 1, her method 4. -/
namespace start1
open Jvm.ClassFile
def u (s : String) : CpInfo := .utf8 (stringToUtf16 s)
/-- a pool by its gaps: so many unusable entries, then the entry; so many at the end -/
def gap : Nat → List CpInfo → List CpInfo
  | 0, r => r
  | n + 1, r => .unusable :: gap n r
def poolList (es : List (Nat × CpInfo)) (last : Nat) : List CpInfo := es.foldr (fun e r => gap e.1 (e.2 :: r)) (gap last [])
def pool (es : List (Nat × CpInfo)) (last : Nat) : Array CpInfo := ⟨poolList es last⟩
def fileOf (pool : Array CpInfo) (this : Nat) (attrs : Array Attribute := #[]) (ms : Array MethodInfo := #[]) (fl : Nat := 33) (sup : Nat := 0) (ifs : Array Nat := #[]) (fds : Array FieldInfo := #[]) : ClassFile where
  minorVersion := 0
  majorVersion := 65
  constantPool := pool
  accessFlags := fl
  thisClass := this
  superClass := sup
  interfaces := ifs
  fields := fds
  methods := ms
  attributes := attrs
def plain (name : String) (sup : Option ClassId) : Class where
  name := name
  kind := .ordinary
  loader := none
  accessFlags := 33
  super := sup
  interfaces := #[]
  cf := none
  fields := #[]
  methods := #[]
  instanceTypes := #[]
  staticTypes := #[]
  resolved := #[]
  callSites := []
  init := .initialized
  statics := none
  mirror := none

def pool0 : Array CpInfo := pool [(5, u "<init>"), (0, u "()V"), (1, .class_ 10), (1, u "java/lang/Object")] 113

def k0c0 : Code := { maxStack := 0, maxLocals := 1, code := object_method_1_code, exceptionTable := #[], attributes := #[] }
def k0m0 : Method := { name := "<init>", desc := "()V", sig := { parameters := [], returnType := none }, accessFlags := 1, code := some k0c0 }
/-- java/lang/Object -/
def k0 : Class := { plain "java/lang/Object" none with
  accessFlags := 33
  interfaces := #[]
  cf := some (fileOf pool0 8 #[] #[{ accessFlags := 1, nameIndex := 5, descriptorIndex := 6, attributes := #[] }] 33 0 #[] #[])
  fields := #[]
  methods := #[k0m0]
  instanceTypes := #[]
  staticTypes := #[]
  resolved := Array.replicate 124 none
  statics := none }

def pool1 : Array CpInfo := pool [(2, .class_ 4), (1, u "java/lang/Object"), (0, u "<init>"), (0, u "()V"), (0, .class_ 8), (0, u "java/lang/String"), (0, .methodref 7 10), (0, .nameAndType 5 11), (0, u "([C)V"), (0, .integer 2147483647), (0, .methodref 14 15), (0, .class_ 16), (0, .nameAndType 17 18), (0, u "com/example/heirloom_archive/heirloomarchive/model/TextIsWhiteSpacePinLaw"), (0, u "pick"), (0, u "(I)C"), (0, .methodref 14 20), (0, .nameAndType 21 22), (0, u "make"), (0, u "(ICCCC)Ljava/lang/String;"), (0, .methodref 14 24), (0, .nameAndType 25 26), (0, u "xmlSpace"), (0, u "(C)Z"), (0, .methodref 28 29), (0, .class_ 30), (0, .nameAndType 31 32), (0, u "com/example/heirloom_archive/heirloomarchive/model/Text"), (0, u "isWhiteSpace"), (0, u "(Ljava/lang/CharSequence;)Z"), (3, u "law"), (0, u "(IIIII)Z")] 2

def k1m0 : Method := { name := "<init>", desc := "()V", sig := { parameters := [], returnType := none }, accessFlags := 1, code := none }
def k1c1 : Code := { maxStack := 2, maxLocals := 2, code := method_2_code, exceptionTable := #[], attributes := #[] }
def k1m1 : Method := { name := "pick", desc := "(I)C", sig := { parameters := [.int], returnType := some .char }, accessFlags := 10, code := some k1c1 }
def k1c2 : Code := { maxStack := 2, maxLocals := 2, code := method_3_code, exceptionTable := #[], attributes := #[] }
def k1m2 : Method := { name := "xmlSpace", desc := "(C)Z", sig := { parameters := [.char], returnType := some .boolean }, accessFlags := 10, code := some k1c2 }
def k1c3 : Code := { maxStack := 6, maxLocals := 5, code := method_4_code, exceptionTable := #[], attributes := #[] }
def k1m3 : Method := { name := "make", desc := "(ICCCC)Ljava/lang/String;", sig := { parameters := [.int, .char, .char, .char, .char], returnType := some (.object "java/lang/String") }, accessFlags := 10, code := some k1c3 }
def k1c4 : Code := { maxStack := 5, maxLocals := 12, code := code, exceptionTable := #[], attributes := #[] }
def k1m4 : Method := { name := "law", desc := "(IIIII)Z", sig := { parameters := [.int, .int, .int, .int, .int], returnType := some .boolean }, accessFlags := 9, code := some k1c4 }
/-- com/example/heirloom_archive/heirloomarchive/model/TextIsWhiteSpacePinLaw -/
def k1 : Class := { plain "com/example/heirloom_archive/heirloomarchive/model/TextIsWhiteSpacePinLaw" (some 0) with
  accessFlags := 49
  interfaces := #[]
  cf := some (fileOf pool1 14 #[] #[{ accessFlags := 1, nameIndex := 5, descriptorIndex := 6, attributes := #[] }, { accessFlags := 10, nameIndex := 17, descriptorIndex := 18, attributes := #[] }, { accessFlags := 10, nameIndex := 25, descriptorIndex := 26, attributes := #[] }, { accessFlags := 10, nameIndex := 21, descriptorIndex := 22, attributes := #[] }, { accessFlags := 9, nameIndex := 36, descriptorIndex := 37, attributes := #[] }] 49 2 #[] #[])
  fields := #[]
  methods := #[k1m0, k1m1, k1m2, k1m3, k1m4]
  instanceTypes := #[]
  staticTypes := #[]
  resolved := Array.replicate 40 none
  statics := none }

def pool2 : Array CpInfo := pool [(1, .class_ 2), (0, u "java/io/Serializable"), (0, .class_ 4), (0, u "java/lang/Object")] 2

/-- java/io/Serializable -/
def k2 : Class := { plain "java/io/Serializable" (some 0) with
  accessFlags := 1537
  interfaces := #[]
  cf := some (fileOf pool2 1 #[] #[] 1537 3 #[] #[])
  fields := #[]
  methods := #[]
  instanceTypes := #[]
  staticTypes := #[]
  resolved := Array.replicate 7 none
  statics := none }

def pool3 : Array CpInfo := pool [(1, .class_ 2), (0, u "java/lang/Comparable"), (0, .class_ 4), (0, u "java/lang/Object")] 7

/-- java/lang/Comparable -/
def k3 : Class := { plain "java/lang/Comparable" (some 0) with
  accessFlags := 1537
  interfaces := #[]
  cf := some (fileOf pool3 1 #[] #[] 1537 3 #[] #[])
  fields := #[]
  methods := #[]
  instanceTypes := #[]
  staticTypes := #[]
  resolved := Array.replicate 12 none
  statics := none }

def pool4 : Array CpInfo := pool [(2, .class_ 4), (1, u "java/lang/CharSequence"), (0, u "length"), (0, u "()I"), (38, u "charAt"), (0, u "(I)C"), (0, .class_ 48), (0, u "java/lang/CharSequence$1CodePointIterator"), (10, .class_ 60), (0, u "java/lang/CharSequence$1CharIterator"), (5, .class_ 67), (0, u "java/lang/Object")] 63

def k4m0 : Method := { name := "length", desc := "()I", sig := { parameters := [], returnType := some .int }, accessFlags := 1025, code := none }
def k4m1 : Method := { name := "charAt", desc := "(I)C", sig := { parameters := [.int], returnType := some .char }, accessFlags := 1025, code := none }
/-- java/lang/CharSequence -/
def k4 : Class := { plain "java/lang/CharSequence" (some 0) with
  accessFlags := 1537
  interfaces := #[]
  cf := some (fileOf pool4 2 #[.nestMembers #[47, 59]] #[{ accessFlags := 1025, nameIndex := 5, descriptorIndex := 6, attributes := #[] }, { accessFlags := 1025, nameIndex := 45, descriptorIndex := 46, attributes := #[] }] 1537 66 #[] #[])
  fields := #[]
  methods := #[k4m0, k4m1]
  instanceTypes := #[]
  staticTypes := #[]
  resolved := Array.replicate 131 none
  statics := none }

def pool5 : Array CpInfo := pool [(1, .class_ 2), (0, u "java/lang/constant/Constable"), (0, .class_ 4), (0, u "java/lang/Object")] 6

/-- java/lang/constant/Constable -/
def k5 : Class := { plain "java/lang/constant/Constable" (some 0) with
  accessFlags := 1537
  interfaces := #[]
  cf := some (fileOf pool5 1 #[] #[] 1537 3 #[] #[])
  fields := #[]
  methods := #[]
  instanceTypes := #[]
  staticTypes := #[]
  resolved := Array.replicate 11 none
  statics := none }

def pool6 : Array CpInfo := pool [(1, .class_ 2), (0, u "java/lang/constant/ConstantDesc"), (0, .class_ 4), (0, u "java/lang/Object")] 32

/-- java/lang/constant/ConstantDesc -/
def k6 : Class := { plain "java/lang/constant/ConstantDesc" (some 0) with
  accessFlags := 1537
  interfaces := #[]
  cf := some (fileOf pool6 1 #[] #[] 1537 3 #[] #[])
  fields := #[]
  methods := #[]
  instanceTypes := #[]
  staticTypes := #[]
  resolved := Array.replicate 37 none
  statics := none }

def pool7 : Array CpInfo := pool [(1, .methodref 2 3), (0, .class_ 4), (0, .nameAndType 5 6), (0, u "java/lang/Object"), (0, u "<init>"), (0, u "()V"), (0, .string 8), (0, u ""), (0, .fieldref 10 11), (0, .class_ 12), (0, .nameAndType 13 14), (0, u "java/lang/String"), (0, u "value"), (0, u "[B"), (0, .fieldref 10 16), (0, .nameAndType 17 18), (0, u "coder"), (0, u "B"), (2, u "hash"), (0, u "I"), (2, u "hashIsZero"), (0, u "Z"), (0, .methodref 10 28), (0, .nameAndType 5 29), (0, u "([CIILjava/lang/Void;)V"), (8, .fieldref 10 39), (0, .nameAndType 40 26), (0, u "COMPACT_STRINGS"), (1, .class_ 44), (1, u "java/lang/StringUTF16"), (0, u "compress"), (1, .methodref 42 48), (0, .nameAndType 49 50), (0, u "coderFromArrayLen"), (0, u "([BI)B"), (56, .class_ 109), (1, u "java/lang/StringLatin1"), (32, u "()Z"), (34, .methodref 42 178), (0, .nameAndType 45 179), (0, u "([CII)[B"), (154, u "()I"), (0, .methodref 10 336), (0, .nameAndType 17 337), (0, u "()B"), (25, u "([BI)C"), (27, u "(II)V"), (35, u "(I)C"), (64, .methodref 10 493), (0, .nameAndType 494 142), (0, u "isLatin1"), (0, .methodref 107 496), (0, .nameAndType 497 363), (0, u "charAt"), (0, .methodref 42 496), (2, u "checkIndex"), (5, u "length"), (67, .class_ 576), (0, u "java/lang/CharSequence"), (22, u "CASE_INSENSITIVE_ORDER"), (0, u "Ljava/util/Comparator;"), (409, u "([C)V"), (42, .fieldref 1054 1055), (0, .class_ 1056), (0, .nameAndType 1057 1058), (0, u "jdk/internal/util/Preconditions"), (0, u "SIOOBE_FORMATTER"), (0, u "Ljava/util/function/BiFunction;"), (0, .methodref 1054 1060), (0, .nameAndType 501 1061), (0, u "(IILjava/util/function/BiFunction;)I"), (39, u "serialPersistentFields"), (0, u "[Ljava/io/ObjectStreamField;"), (0, .class_ 1104), (0, u "java/lang/String$CaseInsensitiveComparator"), (1, .class_ 1107), (0, u "java/io/Serializable"), (0, .class_ 1109), (0, u "java/lang/Comparable"), (0, .class_ 1111), (0, u "java/lang/constant/Constable"), (0, .class_ 1113), (0, u "java/lang/constant/ConstantDesc"), (2, u "serialVersionUID"), (0, u "J"), (3, u "REPL"), (0, u "C"), (2, u "LATIN1"), (1, u "UTF16")] 323

def k7m0 : Method := { name := "<init>", desc := "()V", sig := { parameters := [], returnType := none }, accessFlags := 1, code := none }
def k7c1 : Code := { maxStack := 5, maxLocals := 2, code := jdk_42_method_3_code, exceptionTable := #[], attributes := #[] }
def k7m1 : Method := { name := "<init>", desc := "([C)V", sig := { parameters := [(.array .char)], returnType := none }, accessFlags := 1, code := some k7c1 }
def k7c2 : Code := { maxStack := 2, maxLocals := 1, code := jdk_42_method_54_code, exceptionTable := #[], attributes := #[] }
def k7m2 : Method := { name := "length", desc := "()I", sig := { parameters := [], returnType := some .int }, accessFlags := 1, code := some k7c2 }
def k7c3 : Code := { maxStack := 2, maxLocals := 2, code := jdk_42_method_56_code, exceptionTable := #[], attributes := #[] }
def k7m3 : Method := { name := "charAt", desc := "(I)C", sig := { parameters := [.int], returnType := some .char }, accessFlags := 1, code := some k7c3 }
def k7c4 : Code := { maxStack := 4, maxLocals := 6, code := jdk_42_method_149_code, exceptionTable := #[], attributes := #[] }
def k7m4 : Method := { name := "<init>", desc := "([CIILjava/lang/Void;)V", sig := { parameters := [(.array .char), .int, .int, (.object "java/lang/Void")], returnType := none }, accessFlags := 2, code := some k7c4 }
def k7c5 : Code := { maxStack := 1, maxLocals := 1, code := jdk_42_method_152_code, exceptionTable := #[], attributes := #[] }
def k7m5 : Method := { name := "coder", desc := "()B", sig := { parameters := [], returnType := some .byte }, accessFlags := 0, code := some k7c5 }
def k7c6 : Code := { maxStack := 1, maxLocals := 1, code := jdk_42_method_154_code, exceptionTable := #[], attributes := #[] }
def k7m6 : Method := { name := "isLatin1", desc := "()Z", sig := { parameters := [], returnType := some .boolean }, accessFlags := 0, code := some k7c6 }
def k7c7 : Code := { maxStack := 3, maxLocals := 2, code := jdk_42_method_155_code, exceptionTable := #[], attributes := #[] }
def k7m7 : Method := { name := "checkIndex", desc := "(II)V", sig := { parameters := [.int, .int], returnType := none }, accessFlags := 8, code := some k7c7 }
/-- java/lang/String -/
def k7 : Class := { plain "java/lang/String" (some 0) with
  accessFlags := 49
  interfaces := #[2, 3, 4, 5, 6]
  cf := some (fileOf pool7 10 #[.nestMembers #[1103]] #[{ accessFlags := 1, nameIndex := 5, descriptorIndex := 6, attributes := #[] }, { accessFlags := 1, nameIndex := 5, descriptorIndex := 1010, attributes := #[] }, { accessFlags := 1, nameIndex := 507, descriptorIndex := 334, attributes := #[] }, { accessFlags := 1, nameIndex := 497, descriptorIndex := 427, attributes := #[] }, { accessFlags := 2, nameIndex := 5, descriptorIndex := 29, attributes := #[] }, { accessFlags := 0, nameIndex := 17, descriptorIndex := 337, attributes := #[] }, { accessFlags := 0, nameIndex := 494, descriptorIndex := 142, attributes := #[] }, { accessFlags := 8, nameIndex := 501, descriptorIndex := 391, attributes := #[] }] 49 2 #[1106, 1108, 575, 1110, 1112] #[{ accessFlags := 18, nameIndex := 13, descriptorIndex := 14, attributes := #[] }, { accessFlags := 18, nameIndex := 17, descriptorIndex := 18, attributes := #[] }, { accessFlags := 2, nameIndex := 21, descriptorIndex := 22, attributes := #[] }, { accessFlags := 2, nameIndex := 25, descriptorIndex := 26, attributes := #[] }, { accessFlags := 26, nameIndex := 1116, descriptorIndex := 1117, attributes := #[] }, { accessFlags := 24, nameIndex := 40, descriptorIndex := 26, attributes := #[] }, { accessFlags := 26, nameIndex := 1101, descriptorIndex := 1102, attributes := #[] }, { accessFlags := 26, nameIndex := 1121, descriptorIndex := 1122, attributes := #[] }, { accessFlags := 25, nameIndex := 599, descriptorIndex := 600, attributes := #[] }, { accessFlags := 24, nameIndex := 1125, descriptorIndex := 18, attributes := #[] }, { accessFlags := 24, nameIndex := 1127, descriptorIndex := 18, attributes := #[] }])
  fields := #[{ name := "value", type := (.array .byte), accessFlags := 18, slot := 0, constantValue := 0 }, { name := "coder", type := .byte, accessFlags := 18, slot := 1, constantValue := 0 }, { name := "hash", type := .int, accessFlags := 2, slot := 2, constantValue := 0 }, { name := "hashIsZero", type := .boolean, accessFlags := 2, slot := 3, constantValue := 0 }, { name := "serialVersionUID", type := .long, accessFlags := 26, slot := 0, constantValue := 0 }, { name := "COMPACT_STRINGS", type := .boolean, accessFlags := 24, slot := 1, constantValue := 0 }, { name := "serialPersistentFields", type := (.array (.object "java/io/ObjectStreamField")), accessFlags := 26, slot := 2, constantValue := 0 }, { name := "REPL", type := .char, accessFlags := 26, slot := 3, constantValue := 0 }, { name := "CASE_INSENSITIVE_ORDER", type := (.object "java/util/Comparator"), accessFlags := 25, slot := 4, constantValue := 0 }, { name := "LATIN1", type := .byte, accessFlags := 24, slot := 5, constantValue := 0 }, { name := "UTF16", type := .byte, accessFlags := 24, slot := 6, constantValue := 0 }]
  methods := #[k7m0, k7m1, k7m2, k7m3, k7m4, k7m5, k7m6, k7m7]
  instanceTypes := #[(.array .byte), .byte, .int, .boolean]
  staticTypes := #[.long, .boolean, (.array (.object "java/io/ObjectStreamField")), .char, (.object "java/util/Comparator"), .byte, .byte]
  resolved := Array.replicate 1451 none
  statics := some 0 }

def pool8 : Array CpInfo := pool [(2, .class_ 4), (1, u "java/lang/Object"), (0, u "<init>"), (0, u "()V"), (0, .class_ 8), (0, u "java/lang/Record")] 13

def k8m0 : Method := { name := "<init>", desc := "()V", sig := { parameters := [], returnType := none }, accessFlags := 4, code := none }
/-- java/lang/Record -/
def k8 : Class := { plain "java/lang/Record" (some 0) with
  accessFlags := 1057
  interfaces := #[]
  cf := some (fileOf pool8 7 #[] #[{ accessFlags := 4, nameIndex := 5, descriptorIndex := 6, attributes := #[] }] 1057 2 #[] #[])
  fields := #[]
  methods := #[k8m0]
  instanceTypes := #[]
  staticTypes := #[]
  resolved := Array.replicate 22 none
  statics := none }

def pool9 : Array CpInfo := pool [(1, .class_ 2), (0, u "com/example/heirloom_archive/heirloomarchive/model/Node"), (0, .class_ 4), (0, u "java/lang/Object")] 11

/-- com/example/heirloom_archive/heirloomarchive/model/Node -/
def k9 : Class := { plain "com/example/heirloom_archive/heirloomarchive/model/Node" (some 0) with
  accessFlags := 1537
  interfaces := #[]
  cf := some (fileOf pool9 1 #[] #[] 1537 3 #[] #[])
  fields := #[]
  methods := #[]
  instanceTypes := #[]
  staticTypes := #[]
  resolved := Array.replicate 16 none
  statics := none }

def pool10 : Array CpInfo := pool [(2, .class_ 4), (1, u "java/lang/Record"), (3, .class_ 10), (1, u "com/example/heirloom_archive/heirloomarchive/model/Text"), (0, u "text"), (0, u "Ljava/lang/String;"), (0, .interfaceMethodref 14 15), (0, .class_ 16), (0, .nameAndType 17 18), (0, u "java/lang/CharSequence"), (0, u "length"), (0, u "()I"), (0, .interfaceMethodref 14 20), (0, .nameAndType 21 22), (0, u "charAt"), (0, u "(I)C"), (0, .methodref 8 24), (0, .nameAndType 25 26), (0, u "isWhiteSpace"), (0, u "(C)Z"), (86, .class_ 114), (0, u "com/example/heirloom_archive/heirloomarchive/model/Node"), (4, u "(Ljava/lang/CharSequence;)Z")] 27

def k10c0 : Code := { maxStack := 2, maxLocals := 2, code := prog_97_method_2_code, exceptionTable := #[], attributes := #[] }
def k10m0 : Method := { name := "isWhiteSpace", desc := "(Ljava/lang/CharSequence;)Z", sig := { parameters := [(.object "java/lang/CharSequence")], returnType := some .boolean }, accessFlags := 9, code := some k10c0 }
def k10c1 : Code := { maxStack := 2, maxLocals := 1, code := prog_97_method_10_code, exceptionTable := #[], attributes := #[] }
def k10m1 : Method := { name := "isWhiteSpace", desc := "(C)Z", sig := { parameters := [.char], returnType := some .boolean }, accessFlags := 9, code := some k10c1 }
/-- com/example/heirloom_archive/heirloomarchive/model/Text -/
def k10 : Class := { plain "com/example/heirloom_archive/heirloomarchive/model/Text" (some 8) with
  accessFlags := 49
  interfaces := #[9]
  cf := some (fileOf pool10 8 #[] #[{ accessFlags := 9, nameIndex := 25, descriptorIndex := 119, attributes := #[] }, { accessFlags := 9, nameIndex := 25, descriptorIndex := 26, attributes := #[] }] 49 2 #[113] #[{ accessFlags := 18, nameIndex := 11, descriptorIndex := 12, attributes := #[] }])
  fields := #[{ name := "text", type := (.object "java/lang/String"), accessFlags := 18, slot := 0, constantValue := 0 }]
  methods := #[k10m0, k10m1]
  instanceTypes := #[(.object "java/lang/String")]
  staticTypes := #[]
  resolved := Array.replicate 147 none
  statics := none }

def pool11 : Array CpInfo := pool [(3, .class_ 4), (0, u "java/lang/String"), (1, .class_ 8), (1, u "java/lang/Object"), (0, u "<init>"), (0, u "()V"), (0, .methodref 12 13), (0, .class_ 14), (0, .nameAndType 15 16), (0, u "java/lang/StringUTF16"), (0, u "newBytesLength"), (0, u "(I)I"), (3, .integer 1073741823), (23, .fieldref 12 45), (0, .nameAndType 46 47), (0, u "$assertionsDisabled"), (0, u "Z"), (0, .methodref 12 49), (0, .nameAndType 50 51), (0, u "length"), (0, u "([B)I"), (7, .fieldref 12 60), (0, .nameAndType 61 62), (0, u "HI_BYTE_SHIFT"), (0, u "I"), (0, .fieldref 12 64), (0, .nameAndType 65 62), (0, u "LO_BYTE_SHIFT"), (1, .methodref 12 68), (0, .nameAndType 69 70), (0, u "checkIndex"), (0, u "(I[B)V"), (0, .methodref 12 72), (0, .nameAndType 73 74), (0, u "getChar"), (0, u "([BI)C"), (32, .methodref 12 108), (0, .nameAndType 109 110), (0, u "newBytesFor"), (0, u "(I)[B"), (0, .methodref 12 112), (0, .nameAndType 113 114), (0, u "putChar"), (0, u "([BII)V"), (0, .methodref 12 116), (0, .nameAndType 117 118), (0, u "compress"), (0, u "([CI[BII)I"), (0, .methodref 12 120), (0, .nameAndType 121 122), (0, u "toBytes"), (0, u "([CII)[B"), (138, u "coderFromArrayLen"), (0, u "([BI)B"), (106, .class_ 371), (1, u "java/lang/StringUTF16$LinesSpliterator"), (20, u "charAt"), (21, .methodref 3 415), (0, .nameAndType 69 416), (0, u "(II)V"), (13, u "MAX_LENGTH"), (196, .class_ 628), (0, u "java/lang/StringUTF16$CodePointsSpliterator"), (0, .class_ 630), (0, u "java/lang/StringUTF16$CharsSpliterator")] 4

def k11m0 : Method := { name := "<init>", desc := "()V", sig := { parameters := [], returnType := none }, accessFlags := 0, code := none }
def k11c1 : Code := { maxStack := 1, maxLocals := 1, code := jdk_52_method_2_code, exceptionTable := #[], attributes := #[] }
def k11m1 : Method := { name := "newBytesFor", desc := "(I)[B", sig := { parameters := [.int], returnType := some (.array .byte) }, accessFlags := 9, code := some k11c1 }
def k11c2 : Code := { maxStack := 4, maxLocals := 1, code := jdk_52_method_3_code, exceptionTable := #[], attributes := #[] }
def k11m2 : Method := { name := "newBytesLength", desc := "(I)I", sig := { parameters := [.int], returnType := some .int }, accessFlags := 9, code := some k11c2 }
def k11c3 : Code := { maxStack := 4, maxLocals := 3, code := jdk_52_method_4_code, exceptionTable := #[], attributes := #[] }
def k11m3 : Method := { name := "putChar", desc := "([BII)V", sig := { parameters := [(.array .byte), .int, .int], returnType := none }, accessFlags := 8, code := some k11c3 }
def k11c4 : Code := { maxStack := 3, maxLocals := 2, code := jdk_52_method_5_code, exceptionTable := #[], attributes := #[] }
def k11m4 : Method := { name := "getChar", desc := "([BI)C", sig := { parameters := [(.array .byte), .int], returnType := some .char }, accessFlags := 8, code := some k11c4 }
def k11c5 : Code := { maxStack := 2, maxLocals := 1, code := jdk_52_method_6_code, exceptionTable := #[], attributes := #[] }
def k11m5 : Method := { name := "length", desc := "([B)I", sig := { parameters := [(.array .byte)], returnType := some .int }, accessFlags := 9, code := some k11c5 }
def k11c6 : Code := { maxStack := 4, maxLocals := 5, code := jdk_52_method_14_code, exceptionTable := #[], attributes := #[] }
def k11m6 : Method := { name := "toBytes", desc := "([CII)[B", sig := { parameters := [(.array .char), .int, .int], returnType := some (.array .byte) }, accessFlags := 9, code := some k11c6 }
def k11c7 : Code := { maxStack := 2, maxLocals := 2, code := jdk_52_method_15_code, exceptionTable := #[], attributes := #[] }
def k11m7 : Method := { name := "coderFromArrayLen", desc := "([BI)B", sig := { parameters := [(.array .byte), .int], returnType := some .byte }, accessFlags := 8, code := some k11c7 }
def k11c8 : Code := { maxStack := 5, maxLocals := 6, code := jdk_52_method_16_code, exceptionTable := #[], attributes := #[] }
def k11m8 : Method := { name := "compress", desc := "([CII)[B", sig := { parameters := [(.array .char), .int, .int], returnType := some (.array .byte) }, accessFlags := 9, code := some k11c8 }
def k11c9 : Code := { maxStack := 3, maxLocals := 7, code := jdk_52_method_21_code, exceptionTable := #[], attributes := #[] }
def k11m9 : Method := { name := "compress", desc := "([CI[BII)I", sig := { parameters := [(.array .char), .int, (.array .byte), .int, .int], returnType := some .int }, accessFlags := 9, code := some k11c9 }
def k11c10 : Code := { maxStack := 2, maxLocals := 2, code := jdk_52_method_83_code, exceptionTable := #[], attributes := #[] }
def k11m10 : Method := { name := "charAt", desc := "([BI)C", sig := { parameters := [(.array .byte), .int], returnType := some .char }, accessFlags := 9, code := some k11c10 }
def k11c11 : Code := { maxStack := 2, maxLocals := 2, code := jdk_52_method_91_code, exceptionTable := #[], attributes := #[] }
def k11m11 : Method := { name := "checkIndex", desc := "(I[B)V", sig := { parameters := [.int, (.array .byte)], returnType := none }, accessFlags := 9, code := some k11c11 }
/-- java/lang/StringUTF16 -/
def k11 : Class := { plain "java/lang/StringUTF16" (some 0) with
  accessFlags := 48
  interfaces := #[]
  cf := some (fileOf pool11 12 #[.nestMembers #[627, 629, 369]] #[{ accessFlags := 0, nameIndex := 9, descriptorIndex := 10, attributes := #[] }, { accessFlags := 9, nameIndex := 109, descriptorIndex := 110, attributes := #[] }, { accessFlags := 9, nameIndex := 15, descriptorIndex := 16, attributes := #[] }, { accessFlags := 8, nameIndex := 113, descriptorIndex := 114, attributes := #[] }, { accessFlags := 8, nameIndex := 73, descriptorIndex := 74, attributes := #[] }, { accessFlags := 9, nameIndex := 50, descriptorIndex := 51, attributes := #[] }, { accessFlags := 9, nameIndex := 121, descriptorIndex := 122, attributes := #[] }, { accessFlags := 8, nameIndex := 261, descriptorIndex := 262, attributes := #[] }, { accessFlags := 9, nameIndex := 117, descriptorIndex := 122, attributes := #[] }, { accessFlags := 9, nameIndex := 117, descriptorIndex := 118, attributes := #[] }, { accessFlags := 9, nameIndex := 392, descriptorIndex := 74, attributes := #[] }, { accessFlags := 9, nameIndex := 69, descriptorIndex := 70, attributes := #[] }] 48 6 #[] #[{ accessFlags := 26, nameIndex := 61, descriptorIndex := 62, attributes := #[] }, { accessFlags := 26, nameIndex := 65, descriptorIndex := 62, attributes := #[] }, { accessFlags := 24, nameIndex := 430, descriptorIndex := 62, attributes := #[] }, { accessFlags := 4120, nameIndex := 46, descriptorIndex := 47, attributes := #[] }])
  fields := #[{ name := "HI_BYTE_SHIFT", type := .int, accessFlags := 26, slot := 0, constantValue := 0 }, { name := "LO_BYTE_SHIFT", type := .int, accessFlags := 26, slot := 1, constantValue := 0 }, { name := "MAX_LENGTH", type := .int, accessFlags := 24, slot := 2, constantValue := 0 }, { name := "$assertionsDisabled", type := .boolean, accessFlags := 4120, slot := 3, constantValue := 0 }]
  methods := #[k11m0, k11m1, k11m2, k11m3, k11m4, k11m5, k11m6, k11m7, k11m8, k11m9, k11m10, k11m11]
  instanceTypes := #[]
  staticTypes := #[.int, .int, .int, .boolean]
  resolved := Array.replicate 635 none
  statics := some 1 }

def pool12 : Array CpInfo := pool [(1, .class_ 2), (0, u "java/lang/String"), (1, .class_ 6), (1, u "java/lang/Object"), (0, u "<init>"), (0, u "()V"), (0, .methodref 1 10), (0, .nameAndType 11 12), (0, u "checkIndex"), (0, u "(II)V"), (1, .class_ 16), (1, u "java/lang/StringLatin1"), (36, u "([BI)C"), (67, u "$assertionsDisabled"), (0, u "Z"), (98, .class_ 223), (1, u "java/lang/StringLatin1$LinesSpliterator"), (28, u "charAt"), (137, .class_ 391), (0, u "java/lang/StringLatin1$CharsSpliterator")] 3

def k12m0 : Method := { name := "<init>", desc := "()V", sig := { parameters := [], returnType := none }, accessFlags := 0, code := none }
def k12c1 : Code := { maxStack := 2, maxLocals := 2, code := jdk_43_method_2_code, exceptionTable := #[], attributes := #[] }
def k12m1 : Method := { name := "charAt", desc := "([BI)C", sig := { parameters := [(.array .byte), .int], returnType := some .char }, accessFlags := 9, code := some k12c1 }
/-- java/lang/StringLatin1 -/
def k12 : Class := { plain "java/lang/StringLatin1" (some 0) with
  accessFlags := 48
  interfaces := #[]
  cf := some (fileOf pool12 14 #[.nestMembers #[390, 221]] #[{ accessFlags := 0, nameIndex := 7, descriptorIndex := 8, attributes := #[] }, { accessFlags := 9, nameIndex := 252, descriptorIndex := 53, attributes := #[] }] 48 4 #[] #[{ accessFlags := 4120, nameIndex := 121, descriptorIndex := 122, attributes := #[] }])
  fields := #[{ name := "$assertionsDisabled", type := .boolean, accessFlags := 4120, slot := 0, constantValue := 0 }]
  methods := #[k12m0, k12m1]
  instanceTypes := #[]
  staticTypes := #[.boolean]
  resolved := Array.replicate 395 none
  statics := none }

def pool13 : Array CpInfo := pool [(2, .class_ 4), (1, u "java/lang/Object"), (0, u "<init>"), (0, u "()V"), (17, .class_ 26), (1, u "jdk/internal/util/Preconditions"), (6, u "checkIndex"), (21, .class_ 56), (0, u "jdk/internal/util/Preconditions$4"), (57, .class_ 115), (0, u "jdk/internal/util/Preconditions$1"), (7, u "SIOOBE_FORMATTER"), (0, u "Ljava/util/function/BiFunction;"), (0, .class_ 126), (0, u "jdk/internal/util/Preconditions$2"), (3, u "AIOOBE_FORMATTER"), (0, .class_ 132), (0, u "jdk/internal/util/Preconditions$3"), (3, u "IOOBE_FORMATTER"), (41, u "(IILjava/util/function/BiFunction;)I")] 15

def k13m0 : Method := { name := "<init>", desc := "()V", sig := { parameters := [], returnType := none }, accessFlags := 1, code := none }
def k13c1 : Code := { maxStack := 3, maxLocals := 3, code := jdk_41_method_11_code, exceptionTable := #[], attributes := #[] }
def k13m1 : Method := { name := "checkIndex", desc := "(IILjava/util/function/BiFunction;)I", sig := { parameters := [.int, .int, (.object "java/util/function/BiFunction")], returnType := some .int }, accessFlags := 9, code := some k13c1 }
/-- jdk/internal/util/Preconditions -/
def k13 : Class := { plain "jdk/internal/util/Preconditions" (some 0) with
  accessFlags := 33
  interfaces := #[]
  cf := some (fileOf pool13 24 #[.nestMembers #[55, 131, 125, 114]] #[{ accessFlags := 1, nameIndex := 5, descriptorIndex := 6, attributes := #[] }, { accessFlags := 9, nameIndex := 33, descriptorIndex := 178, attributes := #[] }] 33 2 #[] #[{ accessFlags := 25, nameIndex := 123, descriptorIndex := 124, attributes := #[] }, { accessFlags := 25, nameIndex := 130, descriptorIndex := 124, attributes := #[] }, { accessFlags := 25, nameIndex := 136, descriptorIndex := 124, attributes := #[] }])
  fields := #[{ name := "SIOOBE_FORMATTER", type := (.object "java/util/function/BiFunction"), accessFlags := 25, slot := 0, constantValue := 0 }, { name := "AIOOBE_FORMATTER", type := (.object "java/util/function/BiFunction"), accessFlags := 25, slot := 1, constantValue := 0 }, { name := "IOOBE_FORMATTER", type := (.object "java/util/function/BiFunction"), accessFlags := 25, slot := 2, constantValue := 0 }]
  methods := #[k13m0, k13m1]
  instanceTypes := #[]
  staticTypes := #[(.object "java/util/function/BiFunction"), (.object "java/util/function/BiFunction"), (.object "java/util/function/BiFunction")]
  resolved := Array.replicate 194 none
  statics := some 2 }

def pool14 : Array CpInfo := pool [(9, u "<init>"), (6, .class_ 18), (1, u "java/lang/Object"), (0, u "()V"), (1, .class_ 23), (1, u "jdk/internal/util/ArraysSupport"), (0, u "LOG2_ARRAY_LONG_INDEX_SCALE"), (0, u "I"), (2, u "U"), (0, u "Ljdk/internal/misc/Unsafe;"), (8, u "BIG_ENDIAN"), (0, u "Z"), (8, u "LOG2_BYTE_BIT_SIZE"), (4, u "LOG2_ARRAY_INT_INDEX_SCALE"), (54, u "JLA"), (0, u "Ljdk/internal/access/JavaLangAccess;"), (11, u "LOG2_ARRAY_BOOLEAN_INDEX_SCALE"), (9, u "LOG2_ARRAY_BYTE_INDEX_SCALE"), (5, u "LOG2_ARRAY_CHAR_INDEX_SCALE"), (5, u "LOG2_ARRAY_SHORT_INDEX_SCALE"), (18, u "LOG2_ARRAY_FLOAT_INDEX_SCALE"), (24, u "LOG2_ARRAY_DOUBLE_INDEX_SCALE"), (89, u "T_BOOLEAN"), (2, u "T_CHAR"), (1, u "T_FLOAT"), (1, u "T_DOUBLE"), (1, u "T_BYTE"), (1, u "T_SHORT"), (1, u "T_INT"), (1, u "T_LONG"), (1, u "SOFT_MAX_ARRAY_LENGTH")] 83

def k14m0 : Method := { name := "<init>", desc := "()V", sig := { parameters := [], returnType := none }, accessFlags := 2, code := none }
/-- jdk/internal/util/ArraysSupport -/
def k14 : Class := { plain "jdk/internal/util/ArraysSupport" (some 0) with
  accessFlags := 33
  interfaces := #[]
  cf := some (fileOf pool14 21 #[] #[{ accessFlags := 2, nameIndex := 9, descriptorIndex := 19, attributes := #[] }] 33 16 #[] #[{ accessFlags := 24, nameIndex := 28, descriptorIndex := 29, attributes := #[] }, { accessFlags := 26, nameIndex := 38, descriptorIndex := 39, attributes := #[] }, { accessFlags := 25, nameIndex := 121, descriptorIndex := 25, attributes := #[] }, { accessFlags := 25, nameIndex := 131, descriptorIndex := 25, attributes := #[] }, { accessFlags := 25, nameIndex := 137, descriptorIndex := 25, attributes := #[] }, { accessFlags := 25, nameIndex := 143, descriptorIndex := 25, attributes := #[] }, { accessFlags := 25, nameIndex := 53, descriptorIndex := 25, attributes := #[] }, { accessFlags := 25, nameIndex := 24, descriptorIndex := 25, attributes := #[] }, { accessFlags := 25, nameIndex := 162, descriptorIndex := 25, attributes := #[] }, { accessFlags := 25, nameIndex := 187, descriptorIndex := 25, attributes := #[] }, { accessFlags := 26, nameIndex := 48, descriptorIndex := 25, attributes := #[] }, { accessFlags := 25, nameIndex := 277, descriptorIndex := 25, attributes := #[] }, { accessFlags := 25, nameIndex := 280, descriptorIndex := 25, attributes := #[] }, { accessFlags := 25, nameIndex := 282, descriptorIndex := 25, attributes := #[] }, { accessFlags := 25, nameIndex := 284, descriptorIndex := 25, attributes := #[] }, { accessFlags := 25, nameIndex := 286, descriptorIndex := 25, attributes := #[] }, { accessFlags := 25, nameIndex := 288, descriptorIndex := 25, attributes := #[] }, { accessFlags := 25, nameIndex := 290, descriptorIndex := 25, attributes := #[] }, { accessFlags := 25, nameIndex := 292, descriptorIndex := 25, attributes := #[] }, { accessFlags := 26, nameIndex := 108, descriptorIndex := 109, attributes := #[] }, { accessFlags := 25, nameIndex := 294, descriptorIndex := 25, attributes := #[] }])
  fields := #[{ name := "U", type := (.object "jdk/internal/misc/Unsafe"), accessFlags := 24, slot := 0, constantValue := 0 }, { name := "BIG_ENDIAN", type := .boolean, accessFlags := 26, slot := 1, constantValue := 0 }, { name := "LOG2_ARRAY_BOOLEAN_INDEX_SCALE", type := .int, accessFlags := 25, slot := 2, constantValue := 0 }, { name := "LOG2_ARRAY_BYTE_INDEX_SCALE", type := .int, accessFlags := 25, slot := 3, constantValue := 0 }, { name := "LOG2_ARRAY_CHAR_INDEX_SCALE", type := .int, accessFlags := 25, slot := 4, constantValue := 0 }, { name := "LOG2_ARRAY_SHORT_INDEX_SCALE", type := .int, accessFlags := 25, slot := 5, constantValue := 0 }, { name := "LOG2_ARRAY_INT_INDEX_SCALE", type := .int, accessFlags := 25, slot := 6, constantValue := 0 }, { name := "LOG2_ARRAY_LONG_INDEX_SCALE", type := .int, accessFlags := 25, slot := 7, constantValue := 0 }, { name := "LOG2_ARRAY_FLOAT_INDEX_SCALE", type := .int, accessFlags := 25, slot := 8, constantValue := 0 }, { name := "LOG2_ARRAY_DOUBLE_INDEX_SCALE", type := .int, accessFlags := 25, slot := 9, constantValue := 0 }, { name := "LOG2_BYTE_BIT_SIZE", type := .int, accessFlags := 26, slot := 10, constantValue := 0 }, { name := "T_BOOLEAN", type := .int, accessFlags := 25, slot := 11, constantValue := 0 }, { name := "T_CHAR", type := .int, accessFlags := 25, slot := 12, constantValue := 0 }, { name := "T_FLOAT", type := .int, accessFlags := 25, slot := 13, constantValue := 0 }, { name := "T_DOUBLE", type := .int, accessFlags := 25, slot := 14, constantValue := 0 }, { name := "T_BYTE", type := .int, accessFlags := 25, slot := 15, constantValue := 0 }, { name := "T_SHORT", type := .int, accessFlags := 25, slot := 16, constantValue := 0 }, { name := "T_INT", type := .int, accessFlags := 25, slot := 17, constantValue := 0 }, { name := "T_LONG", type := .int, accessFlags := 25, slot := 18, constantValue := 0 }, { name := "JLA", type := (.object "jdk/internal/access/JavaLangAccess"), accessFlags := 26, slot := 19, constantValue := 0 }, { name := "SOFT_MAX_ARRAY_LENGTH", type := .int, accessFlags := 25, slot := 20, constantValue := 0 }]
  methods := #[k14m0]
  instanceTypes := #[]
  staticTypes := #[(.object "jdk/internal/misc/Unsafe"), .boolean, .int, .int, .int, .int, .int, .int, .int, .int, .int, .int, .int, .int, .int, .int, .int, .int, .int, (.object "jdk/internal/access/JavaLangAccess"), .int]
  resolved := Array.replicate 378 none
  statics := none }

def pool15 : Array CpInfo := pool [(1, u "java/lang/Cloneable"), (0, .class_ 1), (0, u "java/lang/Object"), (0, .class_ 3)] 3

/-- java/lang/Cloneable -/
def k15 : Class := { plain "java/lang/Cloneable" (some 0) with
  accessFlags := 1537
  interfaces := #[]
  cf := some (fileOf pool15 2 #[] #[] 1537 4 #[] #[])
  fields := #[]
  methods := #[]
  instanceTypes := #[]
  staticTypes := #[]
  resolved := Array.replicate 8 none
  statics := none }

/-- the primitive byte -/
def k16 : Class := { plain "byte" none with kind := .primitive 'B', accessFlags := 0x411 }
/-- [B -/
def k17 : Class := { plain "[B" (some 0) with kind := .array 16 .byte, interfaces := #[15, 2], accessFlags := 1041 }

/-- the primitive char -/
def k18 : Class := { plain "char" none with kind := .primitive 'C', accessFlags := 0x411 }
/-- [C -/
def k19 : Class := { plain "[C" (some 0) with kind := .array 18 .char, interfaces := #[15, 2], accessFlags := 1041 }

/-- the primitive int -/
def k20 : Class := { plain "int" none with kind := .primitive 'I', accessFlags := 0x411 }
/-- [I -/
def k21 : Class := { plain "[I" (some 0) with kind := .array 20 .int, interfaces := #[15, 2], accessFlags := 1041 }

def heap : Heap := #[{ cls := 7, slots := #[.long 0, .int 1, .null, .int 0, .null, .int 0, .int 0], vm := .statics 7 },
  { cls := 11, slots := #[.int 0, .int 8, .int 0, .int 1], vm := .statics 11 },
  { cls := 13, slots := #[.null, .null, .null], vm := .statics 13 }]
def classes : Array Class := #[k0, k1, k2, k3, k4, k5, k6, k7, k8, k9, k10, k11, k12, k13, k14, k15, k16, k17, k18, k19, k20, k21]
def interned : List (Array UInt16 × Addr) := []
def slotsUsed : Nat := 14
def theMethod : MethodId := ⟨1, 4⟩
def args0 : Array Value := #[.int 5, .int 7, .int 9, .int 11, .int 13]
def aboutOver (below : List Frame) : State where
  vm := { classes := classes, interned := interned.toArray }
  heap := heap
  slotsUsed := slotsUsed
  threads := #[{ frames := .invoking theMethod args0 :: below }]
def below0 : List Frame := [.native { method := ⟨0, 0⟩, args := #[] }]
def about1 : State := aboutOver below0
def p0 : Program := .bare "" "" ""
def e0 : Env := launch0.env 0 0 0
theorem w_frames : about1.frames = Frame.invoking theMethod args0 :: below0 := rfl
set_option maxRecDepth 65536 in
theorem w_args : argsFit about1.vm theMethod args0 = true := by decide +kernel
set_option maxRecDepth 65536 in
theorem w_heap : heapFits about1 = true := by decide +kernel
set_option maxRecDepth 65536 in
theorem w_runnable : about1.curStatus? = some .runnable := by decide +kernel
set_option maxRecDepth 65536 in
theorem w_alone : about1.alone = true := by decide +kernel
set_option maxRecDepth 65536 in
theorem w_named : about1.methodNamed? x = some theMethod := by decide +kernel
set_option maxRecDepth 65536 in
theorem w_hears : about1.hears theMethod below0 = true := by decide +kernel
set_option maxRecDepth 65536 in
theorem w_ripe : about1.ripe theMethod args0 below0 = true := by decide +kernel
theorem w_running : about1.status = .running := rfl
set_option maxRecDepth 65536 in
theorem w_room : about1.hasRoom e0.platform room_1 = true :=
  launch0.hasRoom_least _ room_1 (by decide +kernel) (by decide +kernel) (by decide +kernel) (by decide +kernel) (by decide +kernel) (by decide +kernel)
theorem allAtoms_all (ts : List Jvm.Cond) (a : Array Jvm.Value) (st : Jvm.State) : (allAtoms ts).before a st = ts.all (fun c => c.before a st) := by
  induction ts with
  | nil => rfl
  | cons c t ih =>
    show (Jvm.Cond.and c (allAtoms t)).before a st = _
    rw [Jvm.Cond.before_and, ih, List.all_cons]
def words1 : List Jvm.Cond := Jvm.Cond.code x code maxLocals ret :: tables_1
/-- a 'code' word, met by the world's own term for the bytes: nothing is compared byte by byte -/
theorem code_word {y : MethodName} {bytes : ByteArray} {mx : Nat} {rt : Option FieldType} {a : Array Value} {s : State} {m : MethodId} {meth : Method} {c : Code} (h1 : s.methodNamed? y = some m) (h2 : s.vm.method? m = some meth) (h3 : meth.code = some c) (h4 : c.code = bytes)
    (h5 : (c.maxLocals == mx && c.exceptionTable.isEmpty && decide (c.maxStack ≤ mostOperands) && decide (meth.sig.returnType = rt) && !meth.locks && decide (parseMethodDescriptor y.desc = some meth.sig)) = true) : (Jvm.Cond.code y bytes mx rt).before a s = true := by
  simp only [Bool.and_eq_true, beq_iff_eq, Bool.not_eq_true', decide_eq_true_eq] at h5
  obtain ⟨⟨⟨⟨⟨g1, g2⟩, g3⟩, g4⟩, g5⟩, g6⟩ := h5
  simp [Cond.before, Cond.holds, Cond.value, h1, h2, h3, h4, g1, g2, g3, g4, g5, g6]
def isCode : Jvm.Cond → Bool
  | .code _ _ _ _ => true
  | _ => false
theorem all_split {L : List Jvm.Cond} {P : Jvm.Cond → Bool} (h1 : L.all (fun c => isCode c || P c) = true) (h2 : ∀ c ∈ L.filter isCode, P c = true) : L.all P = true := by
  refine List.all_eq_true.mpr fun c hc => ?_
  have h := List.all_eq_true.mp h1 c hc
  rcases Bool.eq_false_or_eq_true (isCode c) with hi | hi
  · exact h2 c (List.mem_filter.mpr ⟨hc, hi⟩)
  · simpa [hi] using h
set_option maxRecDepth 65536 in
theorem w_c0 : (Jvm.Cond.code x code maxLocals ret).before args0 about1 = true := code_word (m := ⟨1, 4⟩) (meth := k1m4) (c := k1c4) (by decide +kernel) rfl rfl rfl (by decide +kernel)
set_option maxRecDepth 65536 in
theorem w_c1 : (Jvm.Cond.code ({ cls := "com/example/heirloom_archive/heirloomarchive/model/TextIsWhiteSpacePinLaw", name := "pick", desc := "(I)C" } : Jvm.MethodName) method_2_code (2 : Nat) (Option.some Jvm.ClassFile.FieldType.char)).before args0 about1 = true := code_word (m := ⟨1, 1⟩) (meth := k1m1) (c := k1c1) (by decide +kernel) rfl rfl rfl (by decide +kernel)
set_option maxRecDepth 65536 in
theorem w_c2 : (Jvm.Cond.code ({ cls := "com/example/heirloom_archive/heirloomarchive/model/TextIsWhiteSpacePinLaw", name := "make", desc := "(ICCCC)Ljava/lang/String;" } : Jvm.MethodName) method_4_code (5 : Nat) (Option.some (Jvm.ClassFile.FieldType.object "java/lang/String"))).before args0 about1 = true := code_word (m := ⟨1, 3⟩) (meth := k1m3) (c := k1c3) (by decide +kernel) rfl rfl rfl (by decide +kernel)
set_option maxRecDepth 65536 in
theorem w_c3 : (Jvm.Cond.code ({ cls := "java/lang/String", name := "<init>", desc := "([C)V" } : Jvm.MethodName) jdk_42_method_3_code (2 : Nat) (Option.none : Option Jvm.ClassFile.FieldType)).before args0 about1 = true := code_word (m := ⟨7, 1⟩) (meth := k7m1) (c := k7c1) (by decide +kernel) rfl rfl rfl (by decide +kernel)
set_option maxRecDepth 65536 in
theorem w_c4 : (Jvm.Cond.code ({ cls := "java/lang/String", name := "<init>", desc := "([CIILjava/lang/Void;)V" } : Jvm.MethodName) jdk_42_method_149_code (6 : Nat) (Option.none : Option Jvm.ClassFile.FieldType)).before args0 about1 = true := code_word (m := ⟨7, 4⟩) (meth := k7m4) (c := k7c4) (by decide +kernel) rfl rfl rfl (by decide +kernel)
set_option maxRecDepth 65536 in
theorem w_c5 : (Jvm.Cond.code ({ cls := "java/lang/Object", name := "<init>", desc := "()V" } : Jvm.MethodName) object_method_1_code (1 : Nat) (Option.none : Option Jvm.ClassFile.FieldType)).before args0 about1 = true := code_word (m := ⟨0, 0⟩) (meth := k0m0) (c := k0c0) (by decide +kernel) rfl rfl rfl (by decide +kernel)
set_option maxRecDepth 65536 in
theorem w_c6 : (Jvm.Cond.code ({ cls := "com/example/heirloom_archive/heirloomarchive/model/Text", name := "isWhiteSpace", desc := "(Ljava/lang/CharSequence;)Z" } : Jvm.MethodName) prog_97_method_2_code (2 : Nat) (Option.some Jvm.ClassFile.FieldType.boolean)).before args0 about1 = true := code_word (m := ⟨10, 0⟩) (meth := k10m0) (c := k10c0) (by decide +kernel) rfl rfl rfl (by decide +kernel)
set_option maxRecDepth 65536 in
theorem w_c7 : (Jvm.Cond.code ({ cls := "java/lang/String", name := "length", desc := "()I" } : Jvm.MethodName) jdk_42_method_54_code (1 : Nat) (Option.some Jvm.ClassFile.FieldType.int)).before args0 about1 = true := code_word (m := ⟨7, 2⟩) (meth := k7m2) (c := k7c2) (by decide +kernel) rfl rfl rfl (by decide +kernel)
set_option maxRecDepth 65536 in
theorem w_c8 : (Jvm.Cond.code ({ cls := "java/lang/String", name := "coder", desc := "()B" } : Jvm.MethodName) jdk_42_method_152_code (1 : Nat) (Option.some Jvm.ClassFile.FieldType.byte)).before args0 about1 = true := code_word (m := ⟨7, 5⟩) (meth := k7m5) (c := k7c5) (by decide +kernel) rfl rfl rfl (by decide +kernel)
set_option maxRecDepth 65536 in
theorem w_c9 : (Jvm.Cond.code ({ cls := "java/lang/StringUTF16", name := "compress", desc := "([CII)[B" } : Jvm.MethodName) jdk_52_method_16_code (6 : Nat) (Option.some (Jvm.ClassFile.FieldType.array Jvm.ClassFile.FieldType.byte))).before args0 about1 = true := code_word (m := ⟨11, 8⟩) (meth := k11m8) (c := k11c8) (by decide +kernel) rfl rfl rfl (by decide +kernel)
set_option maxRecDepth 65536 in
theorem w_c10 : (Jvm.Cond.code ({ cls := "java/lang/StringUTF16", name := "compress", desc := "([CI[BII)I" } : Jvm.MethodName) jdk_52_method_21_code (7 : Nat) (Option.some Jvm.ClassFile.FieldType.int)).before args0 about1 = true := code_word (m := ⟨11, 9⟩) (meth := k11m9) (c := k11c9) (by decide +kernel) rfl rfl rfl (by decide +kernel)
set_option maxRecDepth 65536 in
theorem w_c11 : (Jvm.Cond.code ({ cls := "java/lang/StringUTF16", name := "coderFromArrayLen", desc := "([BI)B" } : Jvm.MethodName) jdk_52_method_15_code (2 : Nat) (Option.some Jvm.ClassFile.FieldType.byte)).before args0 about1 = true := code_word (m := ⟨11, 7⟩) (meth := k11m7) (c := k11c7) (by decide +kernel) rfl rfl rfl (by decide +kernel)
set_option maxRecDepth 65536 in
theorem w_c12 : (Jvm.Cond.code ({ cls := "com/example/heirloom_archive/heirloomarchive/model/TextIsWhiteSpacePinLaw", name := "xmlSpace", desc := "(C)Z" } : Jvm.MethodName) method_3_code (2 : Nat) (Option.some Jvm.ClassFile.FieldType.boolean)).before args0 about1 = true := code_word (m := ⟨1, 2⟩) (meth := k1m2) (c := k1c2) (by decide +kernel) rfl rfl rfl (by decide +kernel)
set_option maxRecDepth 65536 in
theorem w_c13 : (Jvm.Cond.code ({ cls := "java/lang/String", name := "charAt", desc := "(I)C" } : Jvm.MethodName) jdk_42_method_56_code (2 : Nat) (Option.some Jvm.ClassFile.FieldType.char)).before args0 about1 = true := code_word (m := ⟨7, 3⟩) (meth := k7m3) (c := k7c3) (by decide +kernel) rfl rfl rfl (by decide +kernel)
set_option maxRecDepth 65536 in
theorem w_c14 : (Jvm.Cond.code ({ cls := "java/lang/String", name := "isLatin1", desc := "()Z" } : Jvm.MethodName) jdk_42_method_154_code (1 : Nat) (Option.some Jvm.ClassFile.FieldType.boolean)).before args0 about1 = true := code_word (m := ⟨7, 6⟩) (meth := k7m6) (c := k7c6) (by decide +kernel) rfl rfl rfl (by decide +kernel)
set_option maxRecDepth 65536 in
theorem w_c15 : (Jvm.Cond.code ({ cls := "java/lang/StringLatin1", name := "charAt", desc := "([BI)C" } : Jvm.MethodName) jdk_43_method_2_code (2 : Nat) (Option.some Jvm.ClassFile.FieldType.char)).before args0 about1 = true := code_word (m := ⟨12, 1⟩) (meth := k12m1) (c := k12c1) (by decide +kernel) rfl rfl rfl (by decide +kernel)
set_option maxRecDepth 65536 in
theorem w_c16 : (Jvm.Cond.code ({ cls := "java/lang/String", name := "checkIndex", desc := "(II)V" } : Jvm.MethodName) jdk_42_method_155_code (2 : Nat) (Option.none : Option Jvm.ClassFile.FieldType)).before args0 about1 = true := code_word (m := ⟨7, 7⟩) (meth := k7m7) (c := k7c7) (by decide +kernel) rfl rfl rfl (by decide +kernel)
set_option maxRecDepth 65536 in
theorem w_c17 : (Jvm.Cond.code ({ cls := "jdk/internal/util/Preconditions", name := "checkIndex", desc := "(IILjava/util/function/BiFunction;)I" } : Jvm.MethodName) jdk_41_method_11_code (3 : Nat) (Option.some Jvm.ClassFile.FieldType.int)).before args0 about1 = true := code_word (m := ⟨13, 1⟩) (meth := k13m1) (c := k13c1) (by decide +kernel) rfl rfl rfl (by decide +kernel)
set_option maxRecDepth 65536 in
theorem w_c18 : (Jvm.Cond.code ({ cls := "com/example/heirloom_archive/heirloomarchive/model/Text", name := "isWhiteSpace", desc := "(C)Z" } : Jvm.MethodName) prog_97_method_10_code (1 : Nat) (Option.some Jvm.ClassFile.FieldType.boolean)).before args0 about1 = true := code_word (m := ⟨10, 1⟩) (meth := k10m1) (c := k10c1) (by decide +kernel) rfl rfl rfl (by decide +kernel)
set_option maxRecDepth 65536 in
theorem w_c19 : (Jvm.Cond.code ({ cls := "java/lang/StringUTF16", name := "toBytes", desc := "([CII)[B" } : Jvm.MethodName) jdk_52_method_14_code (5 : Nat) (Option.some (Jvm.ClassFile.FieldType.array Jvm.ClassFile.FieldType.byte))).before args0 about1 = true := code_word (m := ⟨11, 6⟩) (meth := k11m6) (c := k11c6) (by decide +kernel) rfl rfl rfl (by decide +kernel)
set_option maxRecDepth 65536 in
theorem w_c20 : (Jvm.Cond.code ({ cls := "java/lang/StringUTF16", name := "newBytesFor", desc := "(I)[B" } : Jvm.MethodName) jdk_52_method_2_code (1 : Nat) (Option.some (Jvm.ClassFile.FieldType.array Jvm.ClassFile.FieldType.byte))).before args0 about1 = true := code_word (m := ⟨11, 1⟩) (meth := k11m1) (c := k11c1) (by decide +kernel) rfl rfl rfl (by decide +kernel)
set_option maxRecDepth 65536 in
theorem w_c21 : (Jvm.Cond.code ({ cls := "java/lang/StringUTF16", name := "newBytesLength", desc := "(I)I" } : Jvm.MethodName) jdk_52_method_3_code (1 : Nat) (Option.some Jvm.ClassFile.FieldType.int)).before args0 about1 = true := code_word (m := ⟨11, 2⟩) (meth := k11m2) (c := k11c2) (by decide +kernel) rfl rfl rfl (by decide +kernel)
set_option maxRecDepth 65536 in
theorem w_c22 : (Jvm.Cond.code ({ cls := "java/lang/StringUTF16", name := "putChar", desc := "([BII)V" } : Jvm.MethodName) jdk_52_method_4_code (3 : Nat) (Option.none : Option Jvm.ClassFile.FieldType)).before args0 about1 = true := code_word (m := ⟨11, 3⟩) (meth := k11m3) (c := k11c3) (by decide +kernel) rfl rfl rfl (by decide +kernel)
set_option maxRecDepth 65536 in
theorem w_c23 : (Jvm.Cond.code ({ cls := "java/lang/StringUTF16", name := "getChar", desc := "([BI)C" } : Jvm.MethodName) jdk_52_method_5_code (2 : Nat) (Option.some Jvm.ClassFile.FieldType.char)).before args0 about1 = true := code_word (m := ⟨11, 4⟩) (meth := k11m4) (c := k11c4) (by decide +kernel) rfl rfl rfl (by decide +kernel)
set_option maxRecDepth 65536 in
theorem w_c24 : (Jvm.Cond.code ({ cls := "java/lang/StringUTF16", name := "charAt", desc := "([BI)C" } : Jvm.MethodName) jdk_52_method_83_code (2 : Nat) (Option.some Jvm.ClassFile.FieldType.char)).before args0 about1 = true := code_word (m := ⟨11, 10⟩) (meth := k11m10) (c := k11c10) (by decide +kernel) rfl rfl rfl (by decide +kernel)
set_option maxRecDepth 65536 in
theorem w_c25 : (Jvm.Cond.code ({ cls := "java/lang/StringUTF16", name := "checkIndex", desc := "(I[B)V" } : Jvm.MethodName) jdk_52_method_91_code (2 : Nat) (Option.none : Option Jvm.ClassFile.FieldType)).before args0 about1 = true := code_word (m := ⟨11, 11⟩) (meth := k11m11) (c := k11c11) (by decide +kernel) rfl rfl rfl (by decide +kernel)
set_option maxRecDepth 65536 in
theorem w_c26 : (Jvm.Cond.code ({ cls := "java/lang/StringUTF16", name := "length", desc := "([B)I" } : Jvm.MethodName) jdk_52_method_6_code (1 : Nat) (Option.some Jvm.ClassFile.FieldType.int)).before args0 about1 = true := code_word (m := ⟨11, 5⟩) (meth := k11m5) (c := k11c5) (by decide +kernel) rfl rfl rfl (by decide +kernel)
def codes1 : List Jvm.Cond := [Jvm.Cond.code x code maxLocals ret, Jvm.Cond.code ({ cls := "com/example/heirloom_archive/heirloomarchive/model/TextIsWhiteSpacePinLaw", name := "pick", desc := "(I)C" } : Jvm.MethodName) method_2_code (2 : Nat) (Option.some Jvm.ClassFile.FieldType.char), Jvm.Cond.code ({ cls := "com/example/heirloom_archive/heirloomarchive/model/TextIsWhiteSpacePinLaw", name := "make", desc := "(ICCCC)Ljava/lang/String;" } : Jvm.MethodName) method_4_code (5 : Nat) (Option.some (Jvm.ClassFile.FieldType.object "java/lang/String")), Jvm.Cond.code ({ cls := "java/lang/String", name := "<init>", desc := "([C)V" } : Jvm.MethodName) jdk_42_method_3_code (2 : Nat) (Option.none : Option Jvm.ClassFile.FieldType), Jvm.Cond.code ({ cls := "java/lang/String", name := "<init>", desc := "([CIILjava/lang/Void;)V" } : Jvm.MethodName) jdk_42_method_149_code (6 : Nat) (Option.none : Option Jvm.ClassFile.FieldType), Jvm.Cond.code ({ cls := "java/lang/Object", name := "<init>", desc := "()V" } : Jvm.MethodName) object_method_1_code (1 : Nat) (Option.none : Option Jvm.ClassFile.FieldType), Jvm.Cond.code ({ cls := "com/example/heirloom_archive/heirloomarchive/model/Text", name := "isWhiteSpace", desc := "(Ljava/lang/CharSequence;)Z" } : Jvm.MethodName) prog_97_method_2_code (2 : Nat) (Option.some Jvm.ClassFile.FieldType.boolean), Jvm.Cond.code ({ cls := "java/lang/String", name := "length", desc := "()I" } : Jvm.MethodName) jdk_42_method_54_code (1 : Nat) (Option.some Jvm.ClassFile.FieldType.int), Jvm.Cond.code ({ cls := "java/lang/String", name := "coder", desc := "()B" } : Jvm.MethodName) jdk_42_method_152_code (1 : Nat) (Option.some Jvm.ClassFile.FieldType.byte), Jvm.Cond.code ({ cls := "java/lang/StringUTF16", name := "compress", desc := "([CII)[B" } : Jvm.MethodName) jdk_52_method_16_code (6 : Nat) (Option.some (Jvm.ClassFile.FieldType.array Jvm.ClassFile.FieldType.byte)), Jvm.Cond.code ({ cls := "java/lang/StringUTF16", name := "compress", desc := "([CI[BII)I" } : Jvm.MethodName) jdk_52_method_21_code (7 : Nat) (Option.some Jvm.ClassFile.FieldType.int), Jvm.Cond.code ({ cls := "java/lang/StringUTF16", name := "coderFromArrayLen", desc := "([BI)B" } : Jvm.MethodName) jdk_52_method_15_code (2 : Nat) (Option.some Jvm.ClassFile.FieldType.byte), Jvm.Cond.code ({ cls := "com/example/heirloom_archive/heirloomarchive/model/TextIsWhiteSpacePinLaw", name := "xmlSpace", desc := "(C)Z" } : Jvm.MethodName) method_3_code (2 : Nat) (Option.some Jvm.ClassFile.FieldType.boolean), Jvm.Cond.code ({ cls := "java/lang/String", name := "charAt", desc := "(I)C" } : Jvm.MethodName) jdk_42_method_56_code (2 : Nat) (Option.some Jvm.ClassFile.FieldType.char), Jvm.Cond.code ({ cls := "java/lang/String", name := "isLatin1", desc := "()Z" } : Jvm.MethodName) jdk_42_method_154_code (1 : Nat) (Option.some Jvm.ClassFile.FieldType.boolean), Jvm.Cond.code ({ cls := "java/lang/StringLatin1", name := "charAt", desc := "([BI)C" } : Jvm.MethodName) jdk_43_method_2_code (2 : Nat) (Option.some Jvm.ClassFile.FieldType.char), Jvm.Cond.code ({ cls := "java/lang/String", name := "checkIndex", desc := "(II)V" } : Jvm.MethodName) jdk_42_method_155_code (2 : Nat) (Option.none : Option Jvm.ClassFile.FieldType), Jvm.Cond.code ({ cls := "jdk/internal/util/Preconditions", name := "checkIndex", desc := "(IILjava/util/function/BiFunction;)I" } : Jvm.MethodName) jdk_41_method_11_code (3 : Nat) (Option.some Jvm.ClassFile.FieldType.int), Jvm.Cond.code ({ cls := "com/example/heirloom_archive/heirloomarchive/model/Text", name := "isWhiteSpace", desc := "(C)Z" } : Jvm.MethodName) prog_97_method_10_code (1 : Nat) (Option.some Jvm.ClassFile.FieldType.boolean), Jvm.Cond.code ({ cls := "java/lang/StringUTF16", name := "toBytes", desc := "([CII)[B" } : Jvm.MethodName) jdk_52_method_14_code (5 : Nat) (Option.some (Jvm.ClassFile.FieldType.array Jvm.ClassFile.FieldType.byte)), Jvm.Cond.code ({ cls := "java/lang/StringUTF16", name := "newBytesFor", desc := "(I)[B" } : Jvm.MethodName) jdk_52_method_2_code (1 : Nat) (Option.some (Jvm.ClassFile.FieldType.array Jvm.ClassFile.FieldType.byte)), Jvm.Cond.code ({ cls := "java/lang/StringUTF16", name := "newBytesLength", desc := "(I)I" } : Jvm.MethodName) jdk_52_method_3_code (1 : Nat) (Option.some Jvm.ClassFile.FieldType.int), Jvm.Cond.code ({ cls := "java/lang/StringUTF16", name := "putChar", desc := "([BII)V" } : Jvm.MethodName) jdk_52_method_4_code (3 : Nat) (Option.none : Option Jvm.ClassFile.FieldType), Jvm.Cond.code ({ cls := "java/lang/StringUTF16", name := "getChar", desc := "([BI)C" } : Jvm.MethodName) jdk_52_method_5_code (2 : Nat) (Option.some Jvm.ClassFile.FieldType.char), Jvm.Cond.code ({ cls := "java/lang/StringUTF16", name := "charAt", desc := "([BI)C" } : Jvm.MethodName) jdk_52_method_83_code (2 : Nat) (Option.some Jvm.ClassFile.FieldType.char), Jvm.Cond.code ({ cls := "java/lang/StringUTF16", name := "checkIndex", desc := "(I[B)V" } : Jvm.MethodName) jdk_52_method_91_code (2 : Nat) (Option.none : Option Jvm.ClassFile.FieldType), Jvm.Cond.code ({ cls := "java/lang/StringUTF16", name := "length", desc := "([B)I" } : Jvm.MethodName) jdk_52_method_6_code (1 : Nat) (Option.some Jvm.ClassFile.FieldType.int)]
set_option maxRecDepth 65536 in
theorem codes_eq : words1.filter isCode = codes1 := rfl
theorem w_codes : ∀ c ∈ words1.filter isCode, c.before args0 about1 = true := by
  rw [codes_eq]
  intro c hc
  simp only [codes1, List.mem_cons, List.not_mem_nil, or_false] at hc
  rcases hc with rfl | rfl | rfl | rfl | rfl | rfl | rfl | rfl | rfl | rfl | rfl | rfl | rfl | rfl | rfl | rfl | rfl | rfl | rfl | rfl | rfl | rfl | rfl | rfl | rfl | rfl | rfl
  · exact w_c0
  · exact w_c1
  · exact w_c2
  · exact w_c3
  · exact w_c4
  · exact w_c5
  · exact w_c6
  · exact w_c7
  · exact w_c8
  · exact w_c9
  · exact w_c10
  · exact w_c11
  · exact w_c12
  · exact w_c13
  · exact w_c14
  · exact w_c15
  · exact w_c16
  · exact w_c17
  · exact w_c18
  · exact w_c19
  · exact w_c20
  · exact w_c21
  · exact w_c22
  · exact w_c23
  · exact w_c24
  · exact w_c25
  · exact w_c26
set_option maxRecDepth 65536 in
theorem w_t1 : (words1.take 24).all (fun c => isCode c || c.before args0 about1) = true := by decide +kernel
set_option maxRecDepth 65536 in
theorem w_t2 : ((words1.drop 24).take 24).all (fun c => isCode c || c.before args0 about1) = true := by decide +kernel
set_option maxRecDepth 65536 in
theorem w_t3 : (((words1.drop 24).drop 24).take 24).all (fun c => isCode c || c.before args0 about1) = true := by decide +kernel
set_option maxRecDepth 65536 in
theorem w_t4 : ((((words1.drop 24).drop 24).drop 24).take 24).all (fun c => isCode c || c.before args0 about1) = true := by decide +kernel
set_option maxRecDepth 65536 in
theorem w_t5 : ((((words1.drop 24).drop 24).drop 24).drop 24).all (fun c => isCode c || c.before args0 about1) = true := by decide +kernel
theorem w_tables : (allAtoms (Jvm.Cond.code x code maxLocals ret :: tables_1)).before args0 about1 = true := by
  rw [allAtoms_all]
  show words1.all (fun c => c.before args0 about1) = true
  refine all_split ?_ w_codes
  rw [← List.take_append_drop 24 words1, List.all_append, w_t1, ← List.take_append_drop 24 (words1.drop 24), List.all_append, w_t2, ← List.take_append_drop 24 ((words1.drop 24).drop 24), List.all_append, w_t3, ← List.take_append_drop 24 (((words1.drop 24).drop 24).drop 24), List.all_append, w_t4, w_t5]
  rfl
set_option maxRecDepth 65536 in
theorem w_rest : rest_1_c.before args0 about1 = true := by decide +kernel
set_option maxRecDepth 65536 in
theorem w_case : (Jvm.Cond.and given_1 narrow_1).before args0 about1 = true := by decide +kernel
set_option maxRecDepth 65536 in
theorem w_consts : constsHeld consts_1 about1 := Jvm.Lit.constsHeldB_iff.mp (by decide +kernel)
theorem w_applies : (headSpec (Jvm.Cond.code x code maxLocals ret :: tables_1) room_1).applies x e0.platform about1 = true :=
  (Spec.applies_iff w_frames).mpr ⟨w_running, w_runnable, w_alone, w_named, w_hears, w_ripe, w_room, w_tables⟩
theorem atStart : AtStart classFile x code maxLocals ret World_1 tables_1 room_1 Calls_1 rest_1 Pre_1 launch0 p0 e0 about1 theMethod args0 below0 :=
  ⟨lists_1, trivial, launch0.admits_env _ _ _, launch0.least_env, fairChoices_fair.cas, fairChoices_fair.clock, w_frames, w_args, w_heap, w_applies, ⟨w_consts, trivial⟩, w_rest, w_case⟩
end start1
theorem witness_1 : WitnessClaimed_1 := ⟨start1.p0, start1.e0, start1.about1, start1.theMethod, start1.args0, start1.below0, start1.atStart⟩
end Jvm.Pilot.@@N@@
