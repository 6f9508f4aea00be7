import JvmDerived
import JvmDerived.Pilot.@@N@@Statement
import JvmDerived.Pilot.@@N@@Code
set_option linter.unusedVariables false
set_option linter.unusedSimpArgs false
@@BLOCK:NumsL.lean.txt@@
/- laws to paste: Road.backV (cut by pick.py; bodies as the Statement names them) -/
namespace Jvm.Pilot.@@N@@
namespace StrChars
open Jvm Sem ClassFile Op Lib Jvm.Stand Jvm.Free.XT Jvm.Free.ALB Jvm.Free.JM Jvm.Free
open Jvm.Lib.Cold (StaticIs)
/-- a char array whose places are chars -/
def Ch (a : Addr) (A : Cell) (U : State) : Prop := Arr .char a A U ∧ Typed .char A
theorem Ch.mv {a : Addr} {A : Cell} {U U' : State} (h : Ch a A U) (hal : U.vm.Alike U'.vm) (hh : U'.heap = U.heap) : Ch a A U' := ⟨h.1.mv hal hh, h.2⟩
theorem Ch.keep {a : Addr} {A : Cell} {U U' : State} (h : Ch a A U) (hal : U.vm.Alike U'.vm) (hk : U'.heap[a]? = some A) : Ch a A U' := ⟨h.1.keep hal hk, h.2⟩
/-- what place i of a char[]'s cell holds -/
def cv (A : Cell) (i : Nat) : Int32 := match A.slots[i]? with | some (.int x) => x | _ => 0
theorem Ch.get {a : Addr} {A : Cell} {U : State} (h : Ch a A U) {i : Nat} (hi : i < A.slots.size) : A.slots[i]? = some (.int (cv A i)) := by
  have e := Array.getElem?_eq_getElem hi
  have f := h.2 i _ e
  unfold cv; rw [e]
  generalize A.slots[i] = v at f
  cases v <;> simp [fits] at f ⊢
/-- the byte that i2b leaves of a char -/
def lo8 (x : Int32) : Int32 := x.toInt8.toInt32
theorem fits_lo8 (y : Int32) : fits .byte (.int (lo8 y)) = true := by
  have h1 := y.toInt8.le_toInt
  have h2 := y.toInt8.toInt_lt
  simp only [lo8, fits, Bool.and_eq_true, decide_eq_true_eq, Int32.le_iff_toInt_le, Int8.toInt_toInt32, show (-128 : Int32).toInt = -128 from by decide, show (127 : Int32).toInt = 127 from by decide]
  omega
/-- A' is A but that each place j of lo .. hi - 1 holds f j -/
def Laid (A A' : Cell) (lo hi : Nat) (f : Nat → Value) : Prop := A'.cls = A.cls ∧ A'.vm = A.vm ∧ A'.slots.size = A.slots.size ∧ ∀ i, A'.slots[i]? = if lo ≤ i ∧ i < hi then some (f i) else A.slots[i]?
theorem Laid.zero (A : Cell) (lo : Nat) (f : Nat → Value) : Laid A A lo (lo + 0) f := ⟨rfl, rfl, rfl, fun i => by rw [if_neg (by omega)]⟩
theorem Laid.step {A Ak : Cell} {lo k : Nat} {f : Nat → Value} {v : Value} (h : Laid A Ak lo k f) (hlo : lo ≤ k) (hk : k < Ak.slots.size) (hv : v = f k) : Laid A (Ak.setSlot k v) lo (k + 1) f := by
  refine ⟨h.1, h.2.1, by simpa [Cell.setSlot] using h.2.2.1, fun i => ?_⟩
  by_cases e : k = i
  · subst e; rw [Cell.slots_setSlot_self v hk, if_pos (by omega), hv]
  · rw [Cell.slots_setSlot_ne v e, h.2.2.2 i]
    by_cases q : lo ≤ i ∧ i < k
    · rw [if_pos q, if_pos (by omega)]
    · rw [if_neg q, if_neg (by omega)]
def U16 : String := "java/lang/StringUTF16"
namespace Cmp5
def yN : MethodName := ⟨"java/lang/StringUTF16", "compress", "([CI[BII)I"⟩
abbrev yB : ByteArray := jdk_52_method_21_code
theorem d0 : decode yB 0 = .ok (.iconst 0, 1) := by decide +kernel
theorem d1 : decode yB 1 = .ok (.istore 5, 2) := by decide +kernel
theorem d3 : decode yB 3 = .ok (.iload 5, 2) := by decide +kernel
theorem d5 : decode yB 5 = .ok (.iload 4, 2) := by decide +kernel
theorem d7 : decode yB 7 = .ok (.if_icmp (.ge) 37, 3) := by decide +kernel
theorem d10 : decode yB 10 = .ok (.aload_n 0, 1) := by decide +kernel
theorem d11 : decode yB 11 = .ok (.iload_n 1, 1) := by decide +kernel
theorem d12 : decode yB 12 = .ok (.caload, 1) := by decide +kernel
theorem d13 : decode yB 13 = .ok (.istore 6, 2) := by decide +kernel
theorem d15 : decode yB 15 = .ok (.iload 6, 2) := by decide +kernel
theorem d17 : decode yB 17 = .ok (.sipush 255, 3) := by decide +kernel
theorem d20 : decode yB 20 = .ok (.if_icmp (.le) 6, 3) := by decide +kernel
theorem d26 : decode yB 26 = .ok (.aload_n 2, 1) := by decide +kernel
theorem d27 : decode yB 27 = .ok (.iload_n 3, 1) := by decide +kernel
theorem d28 : decode yB 28 = .ok (.iload 6, 2) := by decide +kernel
theorem d30 : decode yB 30 = .ok (.i2b, 1) := by decide +kernel
theorem d31 : decode yB 31 = .ok (.bastore, 1) := by decide +kernel
theorem d32 : decode yB 32 = .ok (.iinc 1 1, 3) := by decide +kernel
theorem d35 : decode yB 35 = .ok (.iinc 3 1, 3) := by decide +kernel
theorem d38 : decode yB 38 = .ok (.iinc 5 1, 3) := by decide +kernel
theorem d41 : decode yB 41 = .ok (.goto (-38), 3) := by decide +kernel
theorem d44 : decode yB 44 = .ok (.iload 4, 2) := by decide +kernel
theorem d46 : decode yB 46 = .ok (.ireturn, 1) := by decide +kernel
def site : List Cond := []
def tab : Cond := tabOf yN yB 7 (some .int) site
def P (b : Addr) (A : Cell) (d : Addr) (B : Cell) (o q len : Nat) (args : Array Value) (s : State) : Prop := args = #[.ref b, .int (Int32.ofNat o), .ref d, .int (Int32.ofNat q), .int (Int32.ofNat len)] ∧ Ch b A s ∧ Arr .byte d B s ∧ b ≠ d ∧ o + len ≤ A.slots.size ∧ q + len ≤ B.slots.size ∧ ∀ i, i < len → ¬ 255 < cv A (o + i)
def E (b : Addr) (A : Cell) (d : Addr) (B : Cell) (o q len : Nat) (r : Option Value) (s u : State) : Prop := r = some (.int (Int32.ofNat len)) ∧ ∃ B', Put d B' s u ∧ Laid B B' q (q + len) (fun j => Value.int (lo8 (cv A (o + (j - q)))))
/-- no char of the range above 255: len; the places written hold each char's low byte -/
theorem law (l : Launch) (b : Addr) (A : Cell) (d : Addr) (B : Cell) (o q len : Nat) : Law l yN 5 5 0 0 yB 7 (some .int) site (P b A d B o q len) (E b A d B o q len) (copyLocs d q len) 0 0 := by
  refine Law.of_walk (plainFor_of_name (by decide +kernel)) (by decide +kernel) (by decide +kernel) (by decide) (fun _ _ h => by rw [h.1]; rfl) (fun _ U U' hal hh h => ⟨h.1, h.2.1.mv hal hh, h.2.2.1.mv hal hh, h.2.2.2⟩) (fun r U U' V V' h1 hal h2 h => ⟨h.1, h.2.elim fun B' q => ⟨B', q.1.mv h1 h2, q.2⟩⟩) ?_
  intro p e s m args below meth c s₁ X0 hexec hbytes hml hret hlk hnm hown hh0 W hP
  obtain ⟨rfl, hA, hB, hne, l1, l2, hp⟩ := hP
  have c1 : Steps p.tables e below (s₁.setTop (entryFrame m #[.ref b, .int (Int32.ofNat o), .ref d, .int (Int32.ofNat q), .int (Int32.ofNat len)] 7)) (s₁.setTop (mkF m 0 #[.val (.ref b), .val (.int (Int32.ofNat o)), .val (.ref d), .val (.int (Int32.ofNat q)), .val (.int (Int32.ofNat len)), .unset, .unset] [])) := entry rfl
  have hA0 := hA.1.mv X0.warmed.alike hh0
  have hB0 := hB.mv X0.warmed.alike hh0
  have a31 := hA.1.2.2.2
  have c2 : Steps p.tables e below (s₁.setTop (entryFrame m #[.ref b, .int (Int32.ofNat o), .ref d, .int (Int32.ofNat q), .int (Int32.ofNat len)] 7)) (s₁.setTop (mkF m 3 #[.val (.ref b), .val (.int (Int32.ofNat o)), .val (.ref d), .val (.int (Int32.ofNat q)), .val (.int (Int32.ofNat len)), .val (.int 0), .unset] [])) := c1.trans (by
    refine iconstV X0.here hexec rfl 0 (hb hbytes d0) (by decide) ?_
    refine XS.istore X0.here hexec rfl (hb hbytes d1) rfl rfl ?_
    exact Steps.refl _)
  have loop : ∀ (r i : Nat), i + r = len → ∀ (z : Slot), (z = .unset ∨ ∃ w, z = .val w ∧ w.category = 1) → ∀ (Tl : State) (Bk : Cell), Stand p l e { frames := 0, locals := 0, cells := 0, slots := 0 } s m #[.ref b, .int (Int32.ofNat o), .ref d, .int (Int32.ofNat q), .int (Int32.ofNat len)] below meth c Tl ([] ++ copyLocs d q i) 0 0 → Put d Bk s₁ Tl → Laid B Bk q (q + i) (fun j => Value.int (lo8 (cv A (o + (j - q))))) →
      Steps p.tables e below (s₁.setTop (entryFrame m #[.ref b, .int (Int32.ofNat o), .ref d, .int (Int32.ofNat q), .int (Int32.ofNat len)] 7)) (Tl.setTop (mkF m 3 #[.val (.ref b), .val (.int (Int32.ofNat (o + i))), .val (.ref d), .val (.int (Int32.ofNat (q + i))), .val (.int (Int32.ofNat len)), .val (.int (Int32.ofNat i)), z] [])) → ∃ (T' : State) (B' : Cell) (z' : Slot), Stand p l e { frames := 0, locals := 0, cells := 0, slots := 0 } s m #[.ref b, .int (Int32.ofNat o), .ref d, .int (Int32.ofNat q), .int (Int32.ofNat len)] below meth c T' ([] ++ copyLocs d q len) 0 0 ∧ Put d B' s₁ T' ∧ Laid B B' q (q + len) (fun j => Value.int (lo8 (cv A (o + (j - q))))) ∧
      Steps p.tables e below (s₁.setTop (entryFrame m #[.ref b, .int (Int32.ofNat o), .ref d, .int (Int32.ofNat q), .int (Int32.ofNat len)] 7)) (T'.setTop (mkF m 3 #[.val (.ref b), .val (.int (Int32.ofNat (o + len))), .val (.ref d), .val (.int (Int32.ofNat (q + len))), .val (.int (Int32.ofNat len)), .val (.int (Int32.ofNat len)), z'] [])) := by
    intro r
    induction r with
    | zero =>
      intro i hi z hz Tl Bk Xl pl fl cl
      have hil : i = len := by omega
      rw [hil] at Xl fl cl
      exact ⟨Tl, Bk, z, Xl, pl, fl, cl⟩
    | succ r ih =>
      intro i hi z hz Tl Bk Xl pl fl cl
      have all := X0.warmed.alike.symm.trans Xl.warmed.alike
      have hAl := hA0.keep all (pl.other hne hA0.1)
      have hBk := hB0.like all pl.1 fl.1 fl.2.1 fl.2.2.1
      have hlt : q + i < Bk.slots.size := by rw [fl.2.2.1]; omega
      have c3 : Steps p.tables e below (s₁.setTop (entryFrame m #[.ref b, .int (Int32.ofNat o), .ref d, .int (Int32.ofNat q), .int (Int32.ofNat len)] 7)) (Tl.setTop (mkF m 12 #[.val (.ref b), .val (.int (Int32.ofNat (o + i))), .val (.ref d), .val (.int (Int32.ofNat (q + i))), .val (.int (Int32.ofNat len)), .val (.int (Int32.ofNat i)), z] [.int (Int32.ofNat (o + i)), .ref b])) := cl.trans (by
        refine XS.iload Xl.here hexec rfl (hb hbytes d3) rfl ?_
        refine XS.iload Xl.here hexec rfl (hb hbytes d5) rfl ?_
        refine XS.icmpNo Xl.here hexec rfl (hb hbytes d7) rfl (ii_ge_f (lt32 (by omega) (by omega))) ?_
        refine XS.aloadN Xl.here hexec rfl (hb hbytes d10) rfl rfl ?_
        refine XS.iloadN Xl.here hexec rfl (hb hbytes d11) rfl ?_
        exact Steps.refl _)
      have c4 : Steps p.tables e below (s₁.setTop (entryFrame m #[.ref b, .int (Int32.ofNat o), .ref d, .int (Int32.ofNat q), .int (Int32.ofNat len)] 7)) (Tl.setTop (mkF m 13 #[.val (.ref b), .val (.int (Int32.ofNat (o + i))), .val (.ref d), .val (.int (Int32.ofNat (q + i))), .val (.int (Int32.ofNat len)), .val (.int (Int32.ofNat i)), z] [.int (cv A (o + i))])) := c3.trans (by
        refine Xl.aget hexec hAl rfl (hA.get (i := o + i) (by omega)) rfl rfl (hb hbytes d12) ?_
        exact Steps.refl _)
      have c5 : Steps p.tables e below (s₁.setTop (entryFrame m #[.ref b, .int (Int32.ofNat o), .ref d, .int (Int32.ofNat q), .int (Int32.ofNat len)] 7)) (Tl.setTop (mkF m 15 #[.val (.ref b), .val (.int (Int32.ofNat (o + i))), .val (.ref d), .val (.int (Int32.ofNat (q + i))), .val (.int (Int32.ofNat len)), .val (.int (Int32.ofNat i)), .val (.int (cv A (o + i)))] [])) := c4.trans (by
        refine XS.istoreS Xl.here hexec rfl (hb hbytes d13) rfl rfl hz ?_
        exact Steps.refl _)
      have c6 : Steps p.tables e below (s₁.setTop (entryFrame m #[.ref b, .int (Int32.ofNat o), .ref d, .int (Int32.ofNat q), .int (Int32.ofNat len)] 7)) (Tl.setTop (mkF m 31 #[.val (.ref b), .val (.int (Int32.ofNat (o + i))), .val (.ref d), .val (.int (Int32.ofNat (q + i))), .val (.int (Int32.ofNat len)), .val (.int (Int32.ofNat i)), .val (.int (cv A (o + i)))] [.int (lo8 (cv A (o + i))), .int (Int32.ofNat (q + i)), .ref d])) := c5.trans (by
        refine XS.iload Xl.here hexec rfl (hb hbytes d15) rfl ?_
        refine sipushV Xl.here hexec rfl 255 (hb hbytes d17) (by decide) ?_
        refine XS.icmpYes Xl.here hexec rfl (pc0 := 20) rfl (hb hbytes d20) rfl (ii_le_t (hp i (by omega))) (by decide) rfl ?_
        refine XS.aloadN Xl.here hexec rfl (hb hbytes d26) rfl rfl ?_
        refine XS.iloadN Xl.here hexec rfl (hb hbytes d27) rfl ?_
        refine XS.iload Xl.here hexec rfl (hb hbytes d28) rfl ?_
        refine i2b Xl.here hexec rfl (hb hbytes d30) rfl ?_
        exact Steps.refl _)
      obtain ⟨T7, X7, p7, st7⟩ := Xl.aput hexec hBk rfl hlt rfl (fits_lo8 (cv A (o + i))) (g := (mkF m 31 #[.val (.ref b), .val (.int (Int32.ofNat (o + i))), .val (.ref d), .val (.int (Int32.ofNat (q + i))), .val (.int (Int32.ofNat len)), .val (.int (Int32.ofNat i)), .val (.int (cv A (o + i)))] [.int (lo8 (cv A (o + i))), .int (Int32.ofNat (q + i)), .ref d])) rfl (rest := []) rfl (hb hbytes d31)
      have c8 : Steps p.tables e below (s₁.setTop (entryFrame m #[.ref b, .int (Int32.ofNat o), .ref d, .int (Int32.ofNat q), .int (Int32.ofNat len)] 7)) (T7.setTop (mkF m 32 #[.val (.ref b), .val (.int (Int32.ofNat (o + i))), .val (.ref d), .val (.int (Int32.ofNat (q + i))), .val (.int (Int32.ofNat len)), .val (.int (Int32.ofNat i)), .val (.int (cv A (o + i)))] [])) := c6.trans (st7 _ (Steps.refl _))
      have c9 : Steps p.tables e below (s₁.setTop (entryFrame m #[.ref b, .int (Int32.ofNat o), .ref d, .int (Int32.ofNat q), .int (Int32.ofNat len)] 7)) (T7.setTop (mkF m 3 #[.val (.ref b), .val (.int (Int32.ofNat (o + i) + 1)), .val (.ref d), .val (.int (Int32.ofNat (q + i) + 1)), .val (.int (Int32.ofNat len)), .val (.int (Int32.ofNat i + 1)), .val (.int (cv A (o + i)))] [])) := c8.trans (by
        refine iincV X7.here hexec rfl 1 (hb hbytes d32) (by decide) rfl rfl ?_
        refine iincV X7.here hexec rfl 1 (hb hbytes d35) (by decide) rfl rfl ?_
        refine iincV X7.here hexec rfl 1 (hb hbytes d38) (by decide) rfl rfl ?_
        refine XS.goto X7.here hexec rfl (pc0 := 41) rfl (hb hbytes d41) (by decide) rfl ?_
        exact Steps.refl _)
      have c10 : Steps p.tables e below (s₁.setTop (entryFrame m #[.ref b, .int (Int32.ofNat o), .ref d, .int (Int32.ofNat q), .int (Int32.ofNat len)] 7)) (T7.setTop (mkF m 3 #[.val (.ref b), .val (.int (Int32.ofNat (o + (i + 1)))), .val (.ref d), .val (.int (Int32.ofNat (q + (i + 1)))), .val (.int (Int32.ofNat len)), .val (.int (Int32.ofNat (i + 1))), .val (.int (cv A (o + i)))] [])) := by
        have := c9
        rw [succ32, succ32, succ32] at this
        exact this
      exact ih (i + 1) (by omega) _ (Or.inr ⟨_, rfl, rfl⟩) T7 _ (by rw [copyLocs_step, ← List.append_assoc]; exact X7) (pl.trans p7) (fl.step (by omega) hlt (by simp)) c10
  obtain ⟨T9, B9, z9, X9, p9, f9, g9⟩ := loop len 0 (by omega) .unset (Or.inl rfl) s₁ B (by simpa [copyLocs] using X0) ⟨hB0.1, fun _ _ => rfl, rfl⟩ (Laid.zero _ _ _) c2
  have c11 : Steps p.tables e below (s₁.setTop (entryFrame m #[.ref b, .int (Int32.ofNat o), .ref d, .int (Int32.ofNat q), .int (Int32.ofNat len)] 7)) (T9.setTop (mkF m 46 #[.val (.ref b), .val (.int (Int32.ofNat (o + len))), .val (.ref d), .val (.int (Int32.ofNat (q + len))), .val (.int (Int32.ofNat len)), .val (.int (Int32.ofNat len)), z9] [.int (Int32.ofNat len)])) := g9.trans (by
    refine XS.iload X9.here hexec rfl (hb hbytes d3) rfl ?_
    refine XS.iload X9.here hexec rfl (hb hbytes d5) rfl ?_
    refine XS.icmpYes X9.here hexec rfl (pc0 := 7) rfl (hb hbytes d7) rfl (ii_ge_t (nlt32 (by omega) (Nat.le_refl _))) (by decide) rfl ?_
    refine XS.iload X9.here hexec rfl (hb hbytes d44) rfl ?_
    exact Steps.refl _)
  exact ⟨T9, some (.int (Int32.ofNat len)), _, _, _, X9, by simp, rfl, rfl, (fun h => by cases h), ⟨rfl, B9, p9.from hh0, f9⟩, fun fs hl => c11.trans (X9.ireturnOut hexec hret rfl (Or.inl rfl) (hb hbytes d46) hl)⟩
end Cmp5
namespace Cmp3
def yN : MethodName := ⟨"java/lang/StringUTF16", "compress", "([CII)[B"⟩
abbrev yB : ByteArray := jdk_52_method_16_code
theorem d0 : decode yB 0 = .ok (.iload_n 2, 1) := by decide +kernel
theorem d1 : decode yB 1 = .ok (.newarray .byte, 2) := by decide +kernel
theorem d3 : decode yB 3 = .ok (.astore_n 3, 1) := by decide +kernel
theorem d4 : decode yB 4 = .ok (.aload_n 0, 1) := by decide +kernel
theorem d5 : decode yB 5 = .ok (.iload_n 1, 1) := by decide +kernel
theorem d6 : decode yB 6 = .ok (.aload_n 3, 1) := by decide +kernel
theorem d7 : decode yB 7 = .ok (.iconst 0, 1) := by decide +kernel
theorem d8 : decode yB 8 = .ok (.iload_n 2, 1) := by decide +kernel
theorem d9 : decode yB 9 = .ok (.invokestatic 115, 3) := by decide +kernel
theorem d12 : decode yB 12 = .ok (.istore 4, 2) := by decide +kernel
theorem d14 : decode yB 14 = .ok (.iload 4, 2) := by decide +kernel
theorem d16 : decode yB 16 = .ok (.iload_n 2, 1) := by decide +kernel
theorem d17 : decode yB 17 = .ok (.if_icmp (.eq) 40, 3) := by decide +kernel
theorem d57 : decode yB 57 = .ok (.aload_n 3, 1) := by decide +kernel
theorem d58 : decode yB 58 = .ok (.areturn, 1) := by decide +kernel
def site : List Cond := [.arrayClass .byte, Cmp5.tab] ++ staticW U16 115 Cmp5.yN
def tab : Cond := tabOf yN yB 6 (some (.array .byte)) site
def P (b : Addr) (A : Cell) (o len : Nat) (args : Array Value) (s : State) : Prop := args = #[.ref b, .int (Int32.ofNat o), .int (Int32.ofNat len)] ∧ Ch b A s ∧ o + len ≤ A.slots.size ∧ len ≤ 536870912 ∧ ∀ i, i < len → ¬ 255 < cv A (o + i)
def E (b : Addr) (A : Cell) (o len : Nat) (r : Option Value) (s u : State) : Prop := NewArr .byte "[B" len (fun j => .int (lo8 (cv A (o + j)))) r s u ∧ u.heap.size = s.heap.size + 1
/-- no char of the range above 255: a new byte[] of their low bytes -/
theorem law (l : Launch) (b : Addr) (A : Cell) (o len : Nat) : Law l yN 3 3 1 18 yB 6 (some (.array .byte)) site (P b A o len) (E b A o len) [] 1 len := by
  refine Law.of_walk (plainFor_of_name (by decide +kernel)) (by decide +kernel) (by decide +kernel) (by decide) (fun _ _ h => by rw [h.1]; rfl) (fun _ U U' hal hh h => ⟨h.1, h.2.1.mv hal hh, h.2.2⟩) (fun r U U' V V' h1 hal h2 h => ⟨NewArr.mv r U U' V V' h1 hal h2 h.1, by rw [h1, h2]; exact h.2⟩) ?_
  intro p e s m args below meth c s₁ X0 hexec hbytes hml hret hlk hnm hown hh0 W hP
  obtain ⟨rfl, hA, l1, l2, hp⟩ := hP
  have a31 := hA.1.2.2.2
  have c1 : Steps p.tables e below (s₁.setTop (entryFrame m #[.ref b, .int (Int32.ofNat o), .int (Int32.ofNat len)] 6)) (s₁.setTop (mkF m 0 #[.val (.ref b), .val (.int (Int32.ofNat o)), .val (.int (Int32.ofNat len)), .unset, .unset, .unset] [])) := entry rfl
  have c2 : Steps p.tables e below (s₁.setTop (entryFrame m #[.ref b, .int (Int32.ofNat o), .int (Int32.ofNat len)] 6)) (s₁.setTop (mkF m 1 #[.val (.ref b), .val (.int (Int32.ofNat o)), .val (.int (Int32.ofNat len)), .unset, .unset, .unset] [.int (Int32.ofNat len)])) := c1.trans (by
    refine XS.iloadN X0.here hexec rfl (hb hbytes d0) rfl ?_
    exact Steps.refl _)
  obtain ⟨T3, B3, X3, ba3, bs3, bv3, bh3, bf3, st3⟩ := X0.anew hexec (atype := .byte) (wk W (.arrayClass .byte)) rfl (by show len * 1 ≤ _; omega) (by omega) (g := (mkF m 1 #[.val (.ref b), .val (.int (Int32.ofNat o)), .val (.int (Int32.ofNat len)), .unset, .unset, .unset] [.int (Int32.ofNat len)])) rfl (hb hbytes d1) (rest := []) rfl (Nat.le_refl _) (by show 0 + len ≤ len; omega)
  rw [hh0] at ba3 st3
  have kp3 : XT.Kept s T3 := (XT.Kept.of_eq hh0).push bh3
  have hA3 := hA.keep X3.warmed.alike (kp3 _ _ hA.1.1)
  have hne : b ≠ s.heap.size := hA.1.ne
  have c4 : Steps p.tables e below (s₁.setTop (entryFrame m #[.ref b, .int (Int32.ofNat o), .int (Int32.ofNat len)] 6)) (T3.setTop (mkF m 3 #[.val (.ref b), .val (.int (Int32.ofNat o)), .val (.int (Int32.ofNat len)), .unset, .unset, .unset] [.ref s.heap.size])) := c2.trans (st3 _ (Steps.refl _))
  have c5 : Steps p.tables e below (s₁.setTop (entryFrame m #[.ref b, .int (Int32.ofNat o), .int (Int32.ofNat len)] 6)) (T3.setTop (mkF m 9 #[.val (.ref b), .val (.int (Int32.ofNat o)), .val (.int (Int32.ofNat len)), .val (.ref s.heap.size), .unset, .unset] [.int (Int32.ofNat len), .int 0, .ref s.heap.size, .int (Int32.ofNat o), .ref b])) := c4.trans (by
    refine XS.astoreN X3.here hexec rfl (hb hbytes d3) rfl rfl rfl ?_
    refine XS.aloadN X3.here hexec rfl (hb hbytes d4) rfl rfl ?_
    refine XS.iloadN X3.here hexec rfl (hb hbytes d5) rfl ?_
    refine XS.aloadN X3.here hexec rfl (hb hbytes d6) rfl rfl ?_
    refine iconstV X3.here hexec rfl 0 (hb hbytes d7) (by decide) ?_
    refine XS.iloadN X3.here hexec rfl (hb hbytes d8) rfl ?_
    exact Steps.refl _)
  obtain ⟨v6, T6, X6, E6, g6⟩ := X3.callS hexec (Cmp5.law l b A s.heap.size B3 o 0 len) hown (wks W (staticW U16 115 Cmp5.yN)) (wk W Cmp5.tab) (W := 0) (Nat.le_of_ble_eq_true rfl) (Nat.le_of_ble_eq_true rfl) (Nat.le_refl _) (by show 0 + len + 0 ≤ len; omega) (g := (mkF m 9 #[.val (.ref b), .val (.int (Int32.ofNat o)), .val (.int (Int32.ofNat len)), .val (.ref s.heap.size), .unset, .unset] [.int (Int32.ofNat len), .int (Int32.ofNat 0), .ref s.heap.size, .int (Int32.ofNat o), .ref b])) rfl (by rw [hml]; rfl) c5 (argsL := [.ref b, .int (Int32.ofNat o), .ref s.heap.size, .int (Int32.ofNat 0), .int (Int32.ofNat len)]) (rest := []) rfl rfl (by show 2 * 0 + 0 ≤ _; decide) (hb hbytes d9) (⟨rfl, hA3, ba3, hne, l1, by rw [bs3]; simp, hp⟩)
  obtain ⟨rfl, B6, p6, f6⟩ := E6
  have c7 : Steps p.tables e below (s₁.setTop (entryFrame m #[.ref b, .int (Int32.ofNat o), .int (Int32.ofNat len)] 6)) (T6.setTop (mkF m 12 #[.val (.ref b), .val (.int (Int32.ofNat o)), .val (.int (Int32.ofNat len)), .val (.ref s.heap.size), .unset, .unset] [.int (Int32.ofNat len)])) := g6
  have c8 : Steps p.tables e below (s₁.setTop (entryFrame m #[.ref b, .int (Int32.ofNat o), .int (Int32.ofNat len)] 6)) (T6.setTop (mkF m 58 #[.val (.ref b), .val (.int (Int32.ofNat o)), .val (.int (Int32.ofNat len)), .val (.ref s.heap.size), .val (.int (Int32.ofNat len)), .unset] [.ref s.heap.size])) := c7.trans (by
    refine XS.istore X6.here hexec rfl (hb hbytes d12) rfl rfl ?_
    refine XS.iload X6.here hexec rfl (hb hbytes d14) rfl ?_
    refine XS.iloadN X6.here hexec rfl (hb hbytes d16) rfl ?_
    refine XS.icmpYes X6.here hexec rfl (pc0 := 17) rfl (hb hbytes d17) rfl (ii_eq_t rfl) (by decide) rfl ?_
    refine XS.aloadN X6.here hexec rfl (hb hbytes d57) rfl rfl ?_
    exact Steps.refl _)
  have X8 := X6.wide (L' := []) (cells' := 1) (slots' := len) (fun x hx hlt => by
    simp only [List.nil_append, copyLocs, List.mem_map, List.mem_range] at hx
    obtain ⟨i, -, rfl⟩ := hx
    exact absurd hlt (Nat.lt_irrefl _)) (Nat.le_refl _) (by omega)
  exact ⟨T6, some (.ref s.heap.size), _, _, _, X8, rfl, rfl, rfl, (fun h => by cases h), ⟨⟨rfl, B6, ba3.like (X3.warmed.alike.symm.trans X6.warmed.alike) p6.1 f6.1 f6.2.1 f6.2.2.1, f6.2.1.trans bv3, by rw [X6.warmed.alike.findClass, f6.1]; exact bf3, by rw [f6.2.2.1, bs3]; simp, fun j hj => by rw [f6.2.2.2 j, if_pos (by omega)]; rfl, kp3.put p6 (Nat.le_refl _)⟩, by rw [p6.2.2, bh3, hh0]; simp⟩, fun fs hl => c8.trans (X8.areturnOut hexec rfl hret rfl (hb hbytes d58) hl)⟩
end Cmp3
namespace CodL
def yN : MethodName := ⟨"java/lang/StringUTF16", "coderFromArrayLen", "([BI)B"⟩
abbrev yB : ByteArray := jdk_52_method_15_code
theorem d0 : decode yB 0 = .ok (.iload_n 1, 1) := by decide +kernel
theorem d1 : decode yB 1 = .ok (.aload_n 0, 1) := by decide +kernel
theorem d2 : decode yB 2 = .ok (.arraylength, 1) := by decide +kernel
theorem d3 : decode yB 3 = .ok (.isub, 1) := by decide +kernel
theorem d4 : decode yB 4 = .ok (.bipush 31, 2) := by decide +kernel
theorem d6 : decode yB 6 = .ok (.iushr, 1) := by decide +kernel
theorem d7 : decode yB 7 = .ok (.i2b, 1) := by decide +kernel
theorem d8 : decode yB 8 = .ok (.ireturn, 1) := by decide +kernel
def site : List Cond := []
def tab : Cond := tabOf yN yB 2 (some .byte) site
def P (d : Addr) (B : Cell) (args : Array Value) (s : State) : Prop := args = #[.ref d, .int (Int32.ofNat B.slots.size)] ∧ Arr .byte d B s
def E (r : Option Value) (s u : State) : Prop := XT.PureE (some (.int 0)) r s u
/-- an array as long as the number of chars: LATIN1 -/
theorem law (l : Launch) (d : Addr) (B : Cell) : Law l yN 2 2 0 0 yB 2 (some .byte) site (P d B) E [] 0 0 := by
  refine Law.of_walk (plainFor_of_name (by decide +kernel)) (by decide +kernel) (by decide +kernel) (by decide) (fun _ _ h => by rw [h.1]; rfl) (fun _ U U' hal hh h => ⟨h.1, h.2.mv hal hh⟩) (fun r U U' V V' h1 hal h2 h => XT.PureE.mv r U U' V V' h1 hal h2 h) ?_
  intro p e s m args below meth c s₁ X0 hexec hbytes hml hret hlk hnm hown hh0 W hP
  obtain ⟨rfl, hB⟩ := hP
  have hB0 := hB.mv X0.warmed.alike hh0
  have c1 : Steps p.tables e below (s₁.setTop (entryFrame m #[.ref d, .int (Int32.ofNat B.slots.size)] 2)) (s₁.setTop (mkF m 0 #[.val (.ref d), .val (.int (Int32.ofNat B.slots.size))] [])) := entry rfl
  have c2 : Steps p.tables e below (s₁.setTop (entryFrame m #[.ref d, .int (Int32.ofNat B.slots.size)] 2)) (s₁.setTop (mkF m 2 #[.val (.ref d), .val (.int (Int32.ofNat B.slots.size))] [.ref d, .int (Int32.ofNat B.slots.size)])) := c1.trans (by
    refine XS.iloadN X0.here hexec rfl (hb hbytes d0) rfl ?_
    refine XS.aloadN X0.here hexec rfl (hb hbytes d1) rfl rfl ?_
    exact Steps.refl _)
  have c3 : Steps p.tables e below (s₁.setTop (entryFrame m #[.ref d, .int (Int32.ofNat B.slots.size)] 2)) (s₁.setTop (mkF m 8 #[.val (.ref d), .val (.int (Int32.ofNat B.slots.size))] [.int (lo8 (ushr (Int32.ofNat B.slots.size - Int32.ofNat B.slots.size) 31))])) := c2.trans (by
    refine X0.alen hexec hB0 rfl rfl (hb hbytes d2) ?_
    refine XS.isub X0.here hexec rfl (hb hbytes d3) rfl ?_
    refine bipushV X0.here hexec rfl 31 (hb hbytes d4) (by decide) ?_
    refine iushr X0.here hexec rfl (hb hbytes d6) rfl ?_
    refine i2b X0.here hexec rfl (hb hbytes d7) rfl ?_
    exact Steps.refl _)
  have e0 : lo8 (ushr (Int32.ofNat B.slots.size - Int32.ofNat B.slots.size) 31) = 0 := by rw [Int32.sub_self]; decide
  rw [e0] at c3
  exact ⟨s₁, some (.int 0), _, _, _, X0, rfl, rfl, rfl, (fun h => by cases h), ⟨rfl, hh0⟩, fun fs hl => c3.trans (X0.ireturnOut hexec hret rfl (Or.inr (Or.inr (Or.inl rfl))) (hb hbytes d8) hl)⟩
end CodL
/-- the String at a is Latin-1 over a new byte[] (the heap's one new cell): the low bytes of the len chars of A from o on; every cell but a is kept -/
def Got (a : Addr) (D : Cell) (fV fC : Field) (A : Cell) (o len : Nat) (r : Option Value) (s u : State) : Prop := r = none ∧ ∃ D' V : Cell, Blank "java/lang/String" a D' u ∧ Same D D' [fV.slot, fC.slot] ∧ D'.slots[fV.slot]? = some (.ref s.heap.size) ∧ D'.slots[fC.slot]? = some (.int 0) ∧ Arr .byte s.heap.size V u ∧ V.vm = .none ∧ u.vm.findClass "[B" = some V.cls ∧ V.slots.size = len ∧ (∀ j, j < len → V.slots[j]? = some (.int (lo8 (cv A (o + j))))) ∧ (∀ (y : Addr) (c : Cell), y ≠ a → s.heap[y]? = some c → u.heap[y]? = some c) ∧ u.heap.size = s.heap.size + 1
theorem Got.mv {a : Addr} {D A : Cell} {fV fC : Field} {o len : Nat} : ∀ r (U U' V V' : State), U'.heap = U.heap → V.vm.Alike V'.vm → V'.heap = V.heap → Got a D fV fC A o len r U V → Got a D fV fC A o len r U' V' :=
  fun r U U' V V' h1 hal h2 ⟨e0, D', X, a1, a2, a3, a4, a5, a6, a7, a8, a9, a10, a11⟩ => ⟨e0, D', X, a1.mv hal h2, a2, by rw [h1]; exact a3, a4, by rw [h1]; exact a5.mv hal h2, a6, by rw [hal.findClass]; exact a7, a8, a9, by rw [h1, h2]; exact a10, by rw [h1, h2]; exact a11⟩
namespace New4
def yN : MethodName := ⟨"java/lang/String", "<init>", "([CIILjava/lang/Void;)V"⟩
abbrev yB : ByteArray := jdk_42_method_149_code
theorem d0 : decode yB 0 = .ok (.aload_n 0, 1) := by decide +kernel
theorem d1 : decode yB 1 = .ok (.invokespecial 1, 3) := by decide +kernel
theorem d4 : decode yB 4 = .ok (.iload_n 3, 1) := by decide +kernel
theorem d5 : decode yB 5 = .ok (.ifCond (.ne) 22, 3) := by decide +kernel
theorem d27 : decode yB 27 = .ok (.getstatic 38, 3) := by decide +kernel
theorem d30 : decode yB 30 = .ok (.ifCond (.eq) 28, 3) := by decide +kernel
theorem d33 : decode yB 33 = .ok (.aload_n 1, 1) := by decide +kernel
theorem d34 : decode yB 34 = .ok (.iload_n 2, 1) := by decide +kernel
theorem d35 : decode yB 35 = .ok (.iload_n 3, 1) := by decide +kernel
theorem d36 : decode yB 36 = .ok (.invokestatic 177, 3) := by decide +kernel
theorem d39 : decode yB 39 = .ok (.astore 5, 2) := by decide +kernel
theorem d41 : decode yB 41 = .ok (.aload_n 0, 1) := by decide +kernel
theorem d42 : decode yB 42 = .ok (.aload 5, 2) := by decide +kernel
theorem d44 : decode yB 44 = .ok (.iload_n 3, 1) := by decide +kernel
theorem d45 : decode yB 45 = .ok (.invokestatic 47, 3) := by decide +kernel
theorem d48 : decode yB 48 = .ok (.putfield 15, 3) := by decide +kernel
theorem d51 : decode yB 51 = .ok (.aload_n 0, 1) := by decide +kernel
theorem d52 : decode yB 52 = .ok (.aload 5, 2) := by decide +kernel
theorem d54 : decode yB 54 = .ok (.putfield 9, 3) := by decide +kernel
theorem d57 : decode yB 57 = .ok (.return_, 1) := by decide +kernel
def site : List Cond := [.fieldLink "java/lang/String" 38 "java/lang/String" "COMPACT_STRINGS" "Z", Cmp3.tab, CodL.tab, .laysFinal "java/lang/String" "java/lang/String" "value" "[B", .fieldLink "java/lang/String" 9 "java/lang/String" "value" "[B", .laysFinal "java/lang/String" "java/lang/String" "coder" "B", .fieldLink "java/lang/String" 15 "java/lang/String" "coder" "B"] ++ objW "java/lang/String" 1 ++ staticW "java/lang/String" 177 Cmp3.yN ++ staticW "java/lang/String" 47 CodL.yN
def tab : Cond := tabOf yN yB 6 none site
def P (a : Addr) (D : Cell) (fV fC : Field) (b : Addr) (A : Cell) (z : Int32) (o len : Nat) (args : Array Value) (s : State) : Prop := args = #[.ref a, .ref b, .int (Int32.ofNat o), .int (Int32.ofNat len), .null] ∧ Blank "java/lang/String" a D s ∧ Found "java/lang/String" "value" "[B" fV s ∧ Found "java/lang/String" "coder" "B" fC s ∧ Ch b A s ∧ StaticIs s "java/lang/String" "COMPACT_STRINGS" "Z" (.int z) ∧ ¬ z = 0 ∧ 0 < len ∧ o + len ≤ A.slots.size ∧ len ≤ 536870912 ∧ ∀ i, i < len → ¬ 255 < cv A (o + i)
def E (a : Addr) (D : Cell) (fV fC : Field) (A : Cell) (o len : Nat) (r : Option Value) (s u : State) : Prop := Got a D fV fC A o len r s u
/-- len > 0, no char of the range above 255: a Latin-1 String of their low bytes -/
theorem law (l : Launch) (a : Addr) (D : Cell) (fV fC : Field) (b : Addr) (A : Cell) (z : Int32) (o len : Nat) : Law l yN 5 4 2 35 yB 6 none site (P a D fV fC b A z o len) (E a D fV fC A o len) [⟨a, fC.slot⟩, ⟨a, fV.slot⟩] 1 len := by
  refine Law.of_walk (plainFor_of_name (by decide +kernel)) (by decide +kernel) (by decide +kernel) (by decide) (fun _ _ h => by rw [h.1]; rfl) (fun _ U U' hal hh h => ⟨h.1, h.2.1.mv hal hh, h.2.2.1.al hal, h.2.2.2.1.al hal, h.2.2.2.2.1.mv hal hh, h.2.2.2.2.2.1.there hal hh, h.2.2.2.2.2.2⟩) (fun r U U' V V' h1 hal h2 h => Got.mv r U U' V V' h1 hal h2 h) ?_
  intro p e s m args below meth c s₁ X0 hexec hbytes hml hret hlk hnm hown hh0 W hP
  obtain ⟨rfl, hB, f1, f2, hA, s1, hz, l0, l1, l2, hp⟩ := hP
  have a31 := hA.1.2.2.2
  have c1 : Steps p.tables e below (s₁.setTop (entryFrame m #[.ref a, .ref b, .int (Int32.ofNat o), .int (Int32.ofNat len), .null] 6)) (s₁.setTop (mkF m 0 #[.val (.ref a), .val (.ref b), .val (.int (Int32.ofNat o)), .val (.int (Int32.ofNat len)), .val .null, .unset] [])) := entry rfl
  have c2 : Steps p.tables e below (s₁.setTop (entryFrame m #[.ref a, .ref b, .int (Int32.ofNat o), .int (Int32.ofNat len), .null] 6)) (s₁.setTop (mkF m 1 #[.val (.ref a), .val (.ref b), .val (.int (Int32.ofNat o)), .val (.int (Int32.ofNat len)), .val .null, .unset] [.ref a])) := c1.trans (by
    refine XS.aloadN X0.here hexec rfl (hb hbytes d0) rfl rfl ?_
    exact Steps.refl _)
  obtain ⟨T3, X3, q3, st3⟩ := X0.oinit hexec hown (wks W (objW "java/lang/String" 1)) (g := (mkF m 1 #[.val (.ref a), .val (.ref b), .val (.int (Int32.ofNat o)), .val (.int (Int32.ofNat len)), .val .null, .unset] [.ref a])) rfl (by rw [hml]; rfl) (rest := []) rfl (hb hbytes d1) (W := 0) (by show 2 * 0 + 0 ≤ _; decide) (Nat.le_of_ble_eq_true rfl) (Nat.le_of_ble_eq_true rfl)
  have hh3 := q3.trans hh0
  have c4 : Steps p.tables e below (s₁.setTop (entryFrame m #[.ref a, .ref b, .int (Int32.ofNat o), .int (Int32.ofNat len), .null] 6)) (T3.setTop (mkF m 27 #[.val (.ref a), .val (.ref b), .val (.int (Int32.ofNat o)), .val (.int (Int32.ofNat len)), .val .null, .unset] [])) := (c2.trans (st3 _ (Steps.refl _))).trans (by
    refine XS.iloadN X3.here hexec rfl (hb hbytes d4) rfl ?_
    refine XS.ifYes X3.here hexec rfl (pc0 := 5) rfl (hb hbytes d5) rfl (i0_ne_t (nz32 (by omega) l0)) (by decide) rfl ?_
    exact Steps.refl _)
  obtain ⟨T5, X5, q5, st5⟩ := X3.sget hexec hown (wk W (.fieldLink "java/lang/String" 38 "java/lang/String" "COMPACT_STRINGS" "Z")) s1 (fun _ _ h => by rw [hh3]; exact h) (g := (mkF m 27 #[.val (.ref a), .val (.ref b), .val (.int (Int32.ofNat o)), .val (.int (Int32.ofNat len)), .val .null, .unset] [])) rfl (hb hbytes d27)
  have hh5 := q5.trans hh3
  have c6 : Steps p.tables e below (s₁.setTop (entryFrame m #[.ref a, .ref b, .int (Int32.ofNat o), .int (Int32.ofNat len), .null] 6)) (T5.setTop (mkF m 30 #[.val (.ref a), .val (.ref b), .val (.int (Int32.ofNat o)), .val (.int (Int32.ofNat len)), .val .null, .unset] [.int z])) := c4.trans (st5 _ (Steps.refl _))
  have c7 : Steps p.tables e below (s₁.setTop (entryFrame m #[.ref a, .ref b, .int (Int32.ofNat o), .int (Int32.ofNat len), .null] 6)) (T5.setTop (mkF m 36 #[.val (.ref a), .val (.ref b), .val (.int (Int32.ofNat o)), .val (.int (Int32.ofNat len)), .val .null, .unset] [.int (Int32.ofNat len), .int (Int32.ofNat o), .ref b])) := c6.trans (by
    refine XS.ifNo X5.here hexec rfl (hb hbytes d30) rfl (i0_eq_f hz) ?_
    refine XS.aloadN X5.here hexec rfl (hb hbytes d33) rfl rfl ?_
    refine XS.iloadN X5.here hexec rfl (hb hbytes d34) rfl ?_
    refine XS.iloadN X5.here hexec rfl (hb hbytes d35) rfl ?_
    exact Steps.refl _)
  obtain ⟨v8, T8, X8, E8, g8⟩ := X5.callS hexec (Cmp3.law l b A o len) hown (wks W (staticW "java/lang/String" 177 Cmp3.yN)) (wk W Cmp3.tab) (W := 0) (Nat.le_of_ble_eq_true rfl) (Nat.le_of_ble_eq_true rfl) (Nat.le_refl _) (by show 0 + len ≤ len; omega) (g := (mkF m 36 #[.val (.ref a), .val (.ref b), .val (.int (Int32.ofNat o)), .val (.int (Int32.ofNat len)), .val .null, .unset] [.int (Int32.ofNat len), .int (Int32.ofNat o), .ref b])) rfl (by rw [hml]; rfl) c7 (argsL := [.ref b, .int (Int32.ofNat o), .int (Int32.ofNat len)]) (rest := []) rfl rfl (by show 2 * 0 + 0 ≤ _; decide) (hb hbytes d36) (⟨rfl, hA.mv X5.warmed.alike hh5, l1, l2, hp⟩)
  obtain ⟨e8, z8⟩ := E8
  obtain ⟨rfl, N, n1, n2, n3, n4, n5, n6⟩ := NewArr.mv _ T5 s _ _ hh5.symm (Vm.Alike.refl _) rfl e8
  rw [hh5] at z8
  have hB1 := hB.keep X8.warmed.alike (n6 _ _ hB.1)
  have hne : s.heap.size ≠ a := (Nat.ne_of_lt (Array.getElem?_eq_some_iff.mp hB.1).1).symm
  have c9 : Steps p.tables e below (s₁.setTop (entryFrame m #[.ref a, .ref b, .int (Int32.ofNat o), .int (Int32.ofNat len), .null] 6)) (T8.setTop (mkF m 39 #[.val (.ref a), .val (.ref b), .val (.int (Int32.ofNat o)), .val (.int (Int32.ofNat len)), .val .null, .unset] [.ref s.heap.size])) := g8
  have c10 : Steps p.tables e below (s₁.setTop (entryFrame m #[.ref a, .ref b, .int (Int32.ofNat o), .int (Int32.ofNat len), .null] 6)) (T8.setTop (mkF m 45 #[.val (.ref a), .val (.ref b), .val (.int (Int32.ofNat o)), .val (.int (Int32.ofNat len)), .val .null, .val (.ref s.heap.size)] [.int (Int32.ofNat N.slots.size), .ref s.heap.size, .ref a])) := by
    have hc : Steps p.tables e below (s₁.setTop (entryFrame m #[.ref a, .ref b, .int (Int32.ofNat o), .int (Int32.ofNat len), .null] 6)) (T8.setTop (mkF m 45 #[.val (.ref a), .val (.ref b), .val (.int (Int32.ofNat o)), .val (.int (Int32.ofNat len)), .val .null, .val (.ref s.heap.size)] [.int (Int32.ofNat len), .ref s.heap.size, .ref a])) := c9.trans (by
      refine XS.astore X8.here hexec rfl (hb hbytes d39) rfl rfl rfl ?_
      refine XS.aloadN X8.here hexec rfl (hb hbytes d41) rfl rfl ?_
      refine XS.aload X8.here hexec rfl (hb hbytes d42) rfl rfl ?_
      refine XS.iloadN X8.here hexec rfl (hb hbytes d44) rfl ?_
      exact Steps.refl _)
    rw [n4]; exact hc
  obtain ⟨v11, T11, X11, E11, g11⟩ := X8.callS hexec (CodL.law l s.heap.size N) hown (wks W (staticW "java/lang/String" 47 CodL.yN)) (wk W CodL.tab) (W := 1) (Nat.le_of_ble_eq_true rfl) (Nat.le_of_ble_eq_true rfl) (Nat.le_refl _) (by show 0 + len + 0 ≤ len; omega) (g := (mkF m 45 #[.val (.ref a), .val (.ref b), .val (.int (Int32.ofNat o)), .val (.int (Int32.ofNat len)), .val .null, .val (.ref s.heap.size)] [.int (Int32.ofNat N.slots.size), .ref s.heap.size, .ref a])) rfl (by rw [hml]; rfl) c10 (argsL := [.ref s.heap.size, .int (Int32.ofNat N.slots.size)]) (rest := [.ref a]) rfl rfl (by show 2 * 0 + (1 + 0) ≤ _; decide) (hb hbytes d45) (⟨rfl, n1⟩)
  obtain ⟨rfl, q11⟩ := E11
  have hB11 := hB1.mv (X8.warmed.alike.symm.trans X11.warmed.alike) q11
  have c12 : Steps p.tables e below (s₁.setTop (entryFrame m #[.ref a, .ref b, .int (Int32.ofNat o), .int (Int32.ofNat len), .null] 6)) (T11.setTop (mkF m 48 #[.val (.ref a), .val (.ref b), .val (.int (Int32.ofNat o)), .val (.int (Int32.ofNat len)), .val .null, .val (.ref s.heap.size)] [.int 0, .ref a])) := g11
  obtain ⟨T13, X13, p13, bl13, sl13, st13⟩ := X11.finit hexec hown (wk W (.fieldLink "java/lang/String" 15 "java/lang/String" "coder" "B")) (Or.inr ⟨_, (wk W (.laysFinal "java/lang/String" "java/lang/String" "coder" "B"))⟩) (Or.inl ⟨rfl, hnm⟩) f2 (Or.inl rfl) hB11 (t := .byte) (by decide +kernel) rfl (g := (mkF m 48 #[.val (.ref a), .val (.ref b), .val (.int (Int32.ofNat o)), .val (.int (Int32.ofNat len)), .val .null, .val (.ref s.heap.size)] [.int 0, .ref a])) rfl (rest := []) rfl (hb hbytes d48)
  have c14 : Steps p.tables e below (s₁.setTop (entryFrame m #[.ref a, .ref b, .int (Int32.ofNat o), .int (Int32.ofNat len), .null] 6)) (T13.setTop (mkF m 54 #[.val (.ref a), .val (.ref b), .val (.int (Int32.ofNat o)), .val (.int (Int32.ofNat len)), .val .null, .val (.ref s.heap.size)] [.ref s.heap.size, .ref a])) := (c12.trans (st13 _ (Steps.refl _))).trans (by
    refine XS.aloadN X13.here hexec rfl (hb hbytes d51) rfl rfl ?_
    refine XS.aload X13.here hexec rfl (hb hbytes d52) rfl rfl ?_
    exact Steps.refl _)
  obtain ⟨T15, X15, p15, bl15, sl15, st15⟩ := X13.finit hexec hown (wk W (.fieldLink "java/lang/String" 9 "java/lang/String" "value" "[B")) (Or.inr ⟨_, (wk W (.laysFinal "java/lang/String" "java/lang/String" "value" "[B"))⟩) (Or.inl ⟨rfl, hnm⟩) f1 (Or.inl rfl) bl13 (t := (.array .byte)) (by decide +kernel) rfl (g := (mkF m 54 #[.val (.ref a), .val (.ref b), .val (.int (Int32.ofNat o)), .val (.int (Int32.ofNat len)), .val .null, .val (.ref s.heap.size)] [.ref s.heap.size, .ref a])) rfl (rest := []) rfl (hb hbytes d54)
  have c16 : Steps p.tables e below (s₁.setTop (entryFrame m #[.ref a, .ref b, .int (Int32.ofNat o), .int (Int32.ofNat len), .null] 6)) (T15.setTop (mkF m 57 #[.val (.ref a), .val (.ref b), .val (.int (Int32.ofNat o)), .val (.int (Int32.ofNat len)), .val .null, .val (.ref s.heap.size)] [])) := c14.trans (st15 _ (Steps.refl _))
  have ap := apart (Or.inr ⟨_, (wk W (.laysFinal "java/lang/String" "java/lang/String" "value" "[B"))⟩) (Or.inr ⟨_, (wk W (.laysFinal "java/lang/String" "java/lang/String" "coder" "B"))⟩) f1 f2 (t₁ := .array .byte) (t₂ := .byte) (by decide +kernel) (by decide +kernel) (by decide)
  have al := X8.warmed.alike.symm.trans X15.warmed.alike
  have n7 : T11.heap[s.heap.size]? = some N := by rw [q11]; exact n1.1
  exact ⟨T15, none, _, _, _, X15, by simp, rfl, by omega, (fun _ => rfl), ⟨rfl, _, N, bl15, ((Same.refl D _).set _ (by simp)).set _ (by simp), sl15, (Cell.slots_setSlot_ne _ ap).trans sl13, n1.keep al (p15.other hne (p13.other hne n7)), n2, by rw [al.findClass]; exact n3, n4, n5, fun y c h1 h2 => p15.other h1 (p13.other h1 (by rw [q11]; exact n6 y c h2)), by rw [p15.2.2, p13.2.2, q11]; exact z8⟩, fun fs hl => c16.trans (X15.returnOut hexec hret (hb hbytes d57) hl)⟩
end New4
namespace New1
def yN : MethodName := ⟨"java/lang/String", "<init>", "([C)V"⟩
abbrev yB : ByteArray := jdk_42_method_3_code
theorem d0 : decode yB 0 = .ok (.aload_n 0, 1) := by decide +kernel
theorem d1 : decode yB 1 = .ok (.aload_n 1, 1) := by decide +kernel
theorem d2 : decode yB 2 = .ok (.iconst 0, 1) := by decide +kernel
theorem d3 : decode yB 3 = .ok (.aload_n 1, 1) := by decide +kernel
theorem d4 : decode yB 4 = .ok (.arraylength, 1) := by decide +kernel
theorem d5 : decode yB 5 = .ok (.aconst_null, 1) := by decide +kernel
theorem d6 : decode yB 6 = .ok (.invokespecial 27, 3) := by decide +kernel
theorem d9 : decode yB 9 = .ok (.return_, 1) := by decide +kernel
def site : List Cond := [New4.tab] ++ initW "java/lang/String" 27 New4.yN
def tab : Cond := tabOf yN yB 2 none site
def P (a : Addr) (D : Cell) (fV fC : Field) (b : Addr) (A : Cell) (z : Int32) (args : Array Value) (s : State) : Prop := args = #[.ref a, .ref b] ∧ Blank "java/lang/String" a D s ∧ Found "java/lang/String" "value" "[B" fV s ∧ Found "java/lang/String" "coder" "B" fC s ∧ Ch b A s ∧ StaticIs s "java/lang/String" "COMPACT_STRINGS" "Z" (.int z) ∧ ¬ z = 0 ∧ 0 < A.slots.size ∧ A.slots.size ≤ 536870912 ∧ ∀ i, i < A.slots.size → ¬ 255 < cv A i
def E (a : Addr) (D : Cell) (fV fC : Field) (A : Cell) (r : Option Value) (s u : State) : Prop := Got a D fV fC A 0 A.slots.size r s u
/-- new String(chars), not empty, no char above 255: a Latin-1 String of their low bytes -/
theorem law (l : Launch) (a : Addr) (D : Cell) (fV fC : Field) (b : Addr) (A : Cell) (z : Int32) : Law l yN 2 1 3 52 yB 2 none site (P a D fV fC b A z) (E a D fV fC A) [⟨a, fC.slot⟩, ⟨a, fV.slot⟩] 1 A.slots.size := by
  refine Law.of_walk (plainFor_of_name (by decide +kernel)) (by decide +kernel) (by decide +kernel) (by decide) (fun _ _ h => by rw [h.1]; rfl) (fun _ U U' hal hh h => ⟨h.1, h.2.1.mv hal hh, h.2.2.1.al hal, h.2.2.2.1.al hal, h.2.2.2.2.1.mv hal hh, h.2.2.2.2.2.1.there hal hh, h.2.2.2.2.2.2⟩) (fun r U U' V V' h1 hal h2 h => Got.mv r U U' V V' h1 hal h2 h) ?_
  intro p e s m args below meth c s₁ X0 hexec hbytes hml hret hlk hnm hown hh0 W hP
  obtain ⟨rfl, hB, f1, f2, hA, s1, hz, l0, l2, hp⟩ := hP
  have c1 : Steps p.tables e below (s₁.setTop (entryFrame m #[.ref a, .ref b] 2)) (s₁.setTop (mkF m 0 #[.val (.ref a), .val (.ref b)] [])) := entry rfl
  have c2 : Steps p.tables e below (s₁.setTop (entryFrame m #[.ref a, .ref b] 2)) (s₁.setTop (mkF m 6 #[.val (.ref a), .val (.ref b)] [.null, .int (Int32.ofNat A.slots.size), .int 0, .ref b, .ref a])) := c1.trans (by
    refine XS.aloadN X0.here hexec rfl (hb hbytes d0) rfl rfl ?_
    refine XS.aloadN X0.here hexec rfl (hb hbytes d1) rfl rfl ?_
    refine iconstV X0.here hexec rfl 0 (hb hbytes d2) (by decide) ?_
    refine XS.aloadN X0.here hexec rfl (hb hbytes d3) rfl rfl ?_
    refine X0.alen hexec (hA.1.mv X0.warmed.alike hh0) rfl rfl (hb hbytes d4) ?_
    refine XS.aconstNull X0.here hexec rfl (hb hbytes d5) ?_
    exact Steps.refl _)
  obtain ⟨v3, T3, X3, E3, g3⟩ := X0.callN hexec (New4.law l a D fV fC b A z 0 A.slots.size) rfl hown (wks W (initW "java/lang/String" 27 New4.yN)) (W New4.tab (by simp only [site, List.mem_cons, List.mem_append, true_or, or_true])) (W := 0) (Nat.le_of_ble_eq_true rfl) (Nat.le_of_ble_eq_true rfl) (Nat.le_refl _) (by show 0 + A.slots.size ≤ A.slots.size; omega) (g := (mkF m 6 #[.val (.ref a), .val (.ref b)] [.null, .int (Int32.ofNat A.slots.size), .int (Int32.ofNat 0), .ref b, .ref a])) rfl (by rw [hml]; rfl) c2 (argsL := [.ref b, .int (Int32.ofNat 0), .int (Int32.ofNat A.slots.size), .null]) (rest := []) rfl rfl (by show 2 * 0 + 0 ≤ _; decide) (hb hbytes d6) (⟨rfl, hB.mv X0.warmed.alike hh0, f1.al X0.warmed.alike, f2.al X0.warmed.alike, hA.mv X0.warmed.alike hh0, s1.there X0.warmed.alike hh0, hz, l0, by omega, l2, fun i hi => by rw [Nat.zero_add]; exact hp i hi⟩)
  have e0 := Got.mv _ s₁ s _ _ hh0.symm (Vm.Alike.refl _) rfl E3
  obtain rfl := e0.1
  have c4 : Steps p.tables e below (s₁.setTop (entryFrame m #[.ref a, .ref b] 2)) (T3.setTop (mkF m 9 #[.val (.ref a), .val (.ref b)] [])) := g3
  exact ⟨T3, none, _, _, _, X3, by simp, rfl, by omega, (fun _ => rfl), e0, fun fs hl => c4.trans (X3.returnOut hexec hret (hb hbytes d9) hl)⟩
theorem pays {l : Launch} {R : Room} {p : Program} {e : Env} {below : List Frame} {s : State} {sargs : Array Value} {len W : Nat} (a : Addr) (D : Cell) (fV fC : Field) (b : Addr) (A : Cell) (z : Int32) (htab : tab.before sargs s = true) (hfr : 4 ≤ R.frames) (hlo : W + 65 ≤ R.locals) :
    Back l R p e below s sargs yN len W (fun A₁ a₁ => A₁.cells + 1 ≤ R.cells ∧ A₁.slots + A.slots.size ≤ R.slots ∧ P a D fV fC b A z a₁ A₁.U) (fun A₁ _ v₁ B₁ => E a D fV fC A v₁ A₁.U B₁.U ∧ B₁.locs = A₁.locs ++ [⟨a, fC.slot⟩, ⟨a, fV.slot⟩] ∧ B₁.cells = A₁.cells + 1 ∧ B₁.slots = A₁.slots + A.slots.size) :=
  (law l a D fV fC b A z).pays htab hfr (by omega)
end New1
end StrChars
namespace StrChars.Road
open Jvm Sem ClassFile Op Lib Jvm.Stand Jvm.Free Jvm.Free.XT
open Jvm.Lib.Cold (StaticIs)
abbrev ST : String := "java/lang/String"
/-- every table word that New1's law asks, flat -/
abbrev words : List Jvm.Cond := [.code New1.yN New1.yB 2 none, .initialized ST, .methodLink ST 27 New4.yN, .instanceMethod New4.yN,
  .code New4.yN New4.yB 6 none, .fieldLink ST 38 ST "COMPACT_STRINGS" "Z", .laysFinal ST ST "value" "[B", .fieldLink ST 9 ST "value" "[B", .laysFinal ST ST "coder" "B", .fieldLink ST 15 ST "coder" "B",
  .methodLink ST 1 Lib.objectInit, .instanceMethod Lib.objectInit, .code Lib.objectInit ⟨#[0xb1]⟩ 1 none, .methodLink ST 177 Cmp3.yN, .static Cmp3.yN, .methodLink ST 47 CodL.yN, .static CodL.yN,
  .code Cmp3.yN Cmp3.yB 6 (some (.array .byte)), .initialized U16, .arrayClass .byte, .methodLink U16 115 Cmp5.yN, .static Cmp5.yN, .code Cmp5.yN Cmp5.yB 7 (some .int), .code CodL.yN CodL.yB 2 (some .byte)]
theorem tab_of {a : Array Value} {s : State} (h : ∀ w ∈ words, w.before a s = true) : New1.tab.before a s = true := by
  have h5 : Cmp5.tab.before a s = true := unparts (wk h (.code Cmp5.yN Cmp5.yB 7 (some .int))) (wks h (.initialized Cmp5.yN.cls :: Cmp5.site))
  have hc : CodL.tab.before a s = true := unparts (wk h (.code CodL.yN CodL.yB 2 (some .byte))) (wks h (.initialized CodL.yN.cls :: CodL.site))
  have q5 : ∀ w ∈ Cmp5.tab :: words, w.before a s = true := fun w hw => (List.mem_cons.mp hw).elim (fun e => e ▸ h5) (h w)
  have h3 : Cmp3.tab.before a s = true := unparts (wk q5 (.code Cmp3.yN Cmp3.yB 6 (some (.array .byte)))) (wks q5 (.initialized Cmp3.yN.cls :: Cmp3.site))
  have q3 : ∀ w ∈ Cmp3.tab :: CodL.tab :: words, w.before a s = true := fun w hw => (List.mem_cons.mp hw).elim (fun e => e ▸ h3) fun hw => (List.mem_cons.mp hw).elim (fun e => e ▸ hc) (h w)
  have h4 : New4.tab.before a s = true := unparts (wk q3 (.code New4.yN New4.yB 6 none)) (wks q3 (.initialized New4.yN.cls :: New4.site))
  have q4 : ∀ w ∈ New4.tab :: words, w.before a s = true := fun w hw => (List.mem_cons.mp hw).elim (fun e => e ▸ h4) (h w)
  exact unparts (wk q4 (.code New1.yN New1.yB 2 none)) (wks q4 (.initialized New1.yN.cls :: New1.site))
/-- the words ride from the start Z to the walk's own state -/
theorem moved {Z s : State} {a0 args : Array Value} (hZ : Z.Warmed39 s.vm) (hw : ∀ d ∈ words, d.before a0 Z = true) : ∀ d ∈ words, d.before args s = true := fun d hd => by
  have q := hw d hd
  have t : ∀ d ∈ words, d = .arrayClass .byte ∨ (d.onTables && d.keepsFace) = true := by decide +kernel
  rcases t d hd with rfl | t
  · exact RoadKit.mvA hZ q
  · exact RoadKit.mv hZ q t
/-- WHAT COMES BACK, over the tables of the start Z: h the heap at the call, h' behind it -/
def Q (Z : State) (x : Addr) (A : Cell) (h : Heap) (v : Option Value) (h' : Heap) (L : List Loc) : Prop := v = none ∧ (∀ y ∈ L, y.base = x) ∧ RoadKit.Keep h h' [x] ∧ h'.size = h.size + 1 ∧ RoadKit.Exa Z h' x ST ∧ RoadKit.Fld Z h' x ST "value" "[B" (.ref h.size) ∧ RoadKit.Fld Z h' x ST "coder" "B" (.int 0) ∧
  (∃ V : Cell, RoadKit.Arr Z h' h.size V .byte ∧ V.vm = .none ∧ Z.vm.findClass "[B" = some V.cls ∧ V.slots.size = A.slots.size ∧ ∀ j, j < A.slots.size → V.slots[j]? = some (.int (lo8 (cv A j)))) ∧
  ∀ (O n d : String) (w : Value), RoadKit.Fld Z h x O n d w → RoadKit.slotOf Z O n d ≠ RoadKit.slotOf Z ST "value" "[B" → RoadKit.slotOf Z O n d ≠ RoadKit.slotOf Z ST "coder" "B" → RoadKit.Fld Z h' x O n d w
/-- **new String(chars) AT A CALL, IN THE ROAD'S FORM**: for specialBack behind newO: x the fresh String, b the char[] with the cell A -/
theorem back {p : Program} {l : Launch} {e : Env} {R : Room} {s : State} {args : Array Value} {below : List Frame} {len W : Nat} {Z : State} {a0 : Array Value} {h : Heap} (hZ : Z.Warmed39 s.vm) (hw : ∀ d ∈ words, d.before a0 Z = true) {kI : Nat} (wi : (Jvm.Cond.instantiable ST kI).before a0 Z = true)
    {x b : Addr} {A : Cell} {z : Int32} {v0 c0 : Value} (E : RoadKit.Exa Z h x ST) (V : RoadKit.Fld Z h x ST "value" "[B" v0) (C : RoadKit.Fld Z h x ST "coder" "B" c0) (K : RoadKit.Arr Z h b A .char) (hty : Typed .char A) (S : RoadKit.Sta Z h ST "COMPACT_STRINGS" "Z" (.int z)) (hz : ¬ z = 0)
    (l0 : 0 < A.slots.size) (l2 : A.slots.size ≤ 536870912) (hp : ∀ i, i < A.slots.size → ¬ 255 < cv A i) (hfr : 4 ≤ R.frames) (hlo : W + 65 ≤ R.locals) :
    Back l R p e below s args New1.yN len W (fun P a => a = #[.ref x, .ref b] ∧ P.U.heap = h ∧ P.cells + 1 ≤ R.cells ∧ P.slots + A.slots.size ≤ R.slots)
      (fun P _ v B => ∃ L, Q Z x A h v B.U.heap L ∧ B.locs = P.locs ++ L ∧ B.cells = P.cells + 1 ∧ B.slots = P.slots + A.slots.size) := by
  intro m meth c P g ig mk a X hg hsize hdg hW hn hp'
  obtain ⟨rfl, rfl, r1, r2⟩ := hp'
  have al : Z.vm.Alike P.U.vm := hZ.alike.trans X.warmed.alike
  obtain ⟨D, cfV, kV, iV, fV, hD, gV, stV, knV, obV, asV, slV⟩ := id V
  obtain ⟨D', cfC, kC, iC, fC, hD', gC, stC, -, -, asC, slC⟩ := id C
  cases hD.symm.trans hD'
  obtain ⟨D2, kD, e1, e2, e3, e4, e5⟩ := id E
  cases hD.symm.trans e1
  obtain ⟨c2, k2, i1, i2, i3, -⟩ := Cond.instantiable_spec wi
  cases e2.symm.trans i1
  cases e3.symm.trans i2
  obtain ⟨kU, u1, u2⟩ := al.2.2 _ _ e3
  have hB : Blank ST x D P.U := ⟨hD, ⟨knV, fun q hq => by rw [hq] at obV; cases obV⟩, by rw [al.findClass]; exact e2, kU, u1, by rw [u2]; exact i3, by rw [u2]; exact e5 i3⟩
  have F1 : Found ST "value" "[B" fV P.U := ⟨SBG.found_only al ⟨cfV, kV, iV, gV⟩, stV⟩
  have F2 : Found ST "coder" "B" fC P.U := ⟨SBG.found_only al ⟨cfC, kC, iC, gC⟩, stC⟩
  have hA : Ch b A P.U := ⟨⟨K.1, State.isArrayOf_alike al K.2.1, K.2.2, by omega⟩, hty⟩
  have hS : StaticIs P.U ST "COMPACT_STRINGS" "Z" (.int z) := by
    obtain ⟨cfS, iS, kS, fS, st, cS, t1, t2, t3, t4, t5, t6, t7⟩ := S
    exact StaticIs.there (s := { Z with heap := P.U.heap }) ⟨cfS, iS, kS, fS, st, cS, t1, t2, t3, t4, t5, (fun q => by rw [q] at t6; cases t6), t7⟩ al rfl
  obtain ⟨v, B, X', ⟨⟨hv, E', V', q1, q2, q3, q4, q5, q6, q7, q8, q9, q10, q11⟩, hl, hc, hs⟩, st⟩ := New1.pays x D fV fC b A z (tab_of (moved hZ hw)) hfr hlo m meth c P g ig mk _ X hg hsize hdg hW hn ⟨r1, r2, rfl, hB, F1, F2, hA, hS, hz, l0, l2, hp⟩
  have al' : Z.vm.Alike B.U.vm := hZ.alike.trans X'.warmed.alike
  have hsz : E'.slots.size = D.slots.size := by
    obtain ⟨-, -, -, kB, w1, w2, w3⟩ := q1
    obtain ⟨kB', y1, y2⟩ := al'.2.2 _ _ e3
    rw [q2.2.1] at w1
    cases w1.symm.trans y1
    rw [w3, e5 i3, y2]
  refine ⟨v, B, X', ⟨_, ⟨hv, ?_, ⟨by omega, fun y cy hy hn' => q10 y cy (by simpa using hn') hy, fun y cy hy => ?_⟩, q11, ⟨E', _, q1.1, by rw [q2.2.1]; exact e2, by rw [q2.2.1]; exact e3, by rw [q2.1]; exact obV, fun _ => by rw [hsz]; exact e5 i3⟩,
    ⟨E', cfV, kV, iV, fV, q1.1, gV, stV, by rw [q2.1]; exact knV, by rw [q2.1]; exact obV, by rw [q2.2.1]; exact asV, q3⟩, ⟨E', cfC, kC, iC, fC, q1.1, gC, stC, by rw [q2.1]; exact knV, by rw [q2.1]; exact obV, by rw [q2.2.1]; exact asC, q4⟩,
    ⟨V', ⟨q5.1, State.isArrayOf_alike al'.symm q5.2.1, q5.2.2.1⟩, q6, by rw [← al'.findClass]; exact q7, q8, fun j hj => by have := q9 j hj; rwa [Nat.zero_add] at this⟩, fun O n d w F n1 n2 => ?_⟩, hl, hc, hs⟩, st⟩
  · intro y hy
    simp only [List.mem_cons, List.not_mem_nil, or_false] at hy
    rcases hy with rfl | rfl <;> rfl
  · by_cases q : y = x
    · subst q
      cases hD.symm.trans hy
      exact ⟨E', q1.1, q2.2.1, q2.1, hsz⟩
    · exact ⟨cy, q10 y cy q hy, rfl, rfl, rfl⟩
  · obtain ⟨D3, cf, k, i, f, g1, g2, g3, g4, g5, g6, g7⟩ := F
    cases hD.symm.trans g1
    simp only [RoadKit.slotOf, g2, gV, gC, Option.map_some, Option.getD_some] at n1 n2
    exact ⟨E', cf, k, i, f, q1.1, g2, g3, by rw [q2.1]; exact g4, by rw [q2.1]; exact g5, by rw [q2.2.1]; exact g6, by rw [q2.2.2 f.slot (by simp [n1, n2])]; exact g7⟩
end StrChars.Road
namespace StrChars.Road
open Jvm Sem ClassFile Op Lib Jvm.Stand Jvm.Free Jvm.Free.XT
/-- WHAT COMES BACK, the byte[] as a list of values -/
def QA (Z : State) (x : Addr) (zn : Int32) (cs : List Int32) (h : Heap) (v : Option Value) (h' : Heap) (L : List Loc) : Prop := v = none ∧ (∀ y ∈ L, y.base = x) ∧ RoadKit.Keep h h' [x] ∧ h'.size = h.size + 1 ∧ RoadKit.Exa Z h' x ST ∧ RoadKit.Fld Z h' x ST "value" "[B" (.ref h.size) ∧ RoadKit.Fld Z h' x ST "coder" "B" (.int 0) ∧
  (∃ kb, Z.vm.findClass "[B" = some kb ∧ RoadKit.Arv Z h' h.size kb .byte zn (cs.map fun c => .int (lo8 c)) (.int 0)) ∧
  ∀ (O n d : String) (w : Value), RoadKit.Fld Z h x O n d w → RoadKit.slotOf Z O n d ≠ RoadKit.slotOf Z ST "value" "[B" → RoadKit.slotOf Z O n d ≠ RoadKit.slotOf Z ST "coder" "B" → RoadKit.Fld Z h' x O n d w
/-- **new String(chars) AT A CALL, THE ARRAYS AS LISTS**: the char[] at b holds cs, not empty, no char above 255 -/
theorem backArv {p : Program} {l : Launch} {e : Env} {R : Room} {s : State} {args : Array Value} {below : List Frame} {len W : Nat} {Z : State} {a0 : Array Value} {h : Heap} (hZ : Z.Warmed39 s.vm) (hw : ∀ d ∈ words, d.before a0 Z = true) {kI : Nat} (wi : (Jvm.Cond.instantiable ST kI).before a0 Z = true)
    {x b : Addr} {k : ClassId} {zn z : Int32} {cs : List Int32} {dv v0 c0 : Value} (E : RoadKit.Exa Z h x ST) (V : RoadKit.Fld Z h x ST "value" "[B" v0) (C : RoadKit.Fld Z h x ST "coder" "B" c0) (K : RoadKit.Arv Z h b k .char zn (cs.map Value.int) dv) (S : RoadKit.Sta Z h ST "COMPACT_STRINGS" "Z" (.int z)) (hz : ¬ z = 0)
    (hlen : zn.toNatClampNeg = cs.length) (h0 : 0 < cs.length) (hbig : cs.length ≤ 536870912) (hall : ∀ c ∈ cs, ¬ 255 < c) (hfr : 4 ≤ R.frames) (hlo : W + 65 ≤ R.locals) :
    Back l R p e below s args New1.yN len W (fun P a => a = #[.ref x, .ref b] ∧ P.U.heap = h ∧ P.cells + 1 ≤ R.cells ∧ P.slots + cs.length ≤ R.slots)
      (fun P _ v B => ∃ L, QA Z x zn cs h v B.U.heap L ∧ B.locs = P.locs ++ L ∧ B.cells = P.cells + 1 ∧ B.slots = P.slots + cs.length) := by
  obtain ⟨A, K1, K2, K3, K4, K5, K6⟩ := K
  have e : A.slots.size = cs.length := K3.trans hlen
  have hat : ∀ (i : Nat) (hi : i < cs.length), A.slots[i]? = some (.int cs[i]) := fun i hi => by rw [K5 i (by omega)]; simp [List.getD_eq_getElem?_getD, hi]
  have hcv : ∀ (i : Nat) (hi : i < cs.length), cv A i = cs[i] := fun i hi => by unfold cv; rw [hat i hi]
  have hty : Typed .char A := fun i v hv => by
    have hi : i < A.slots.size := (Array.getElem?_eq_some_iff.mp hv).1
    have q := K5 i hi
    rw [hv] at q
    rw [Option.some.inj q]
    exact K6 i hi
  refine Back.mono (back hZ hw wi E V C K1 hty S hz (by omega) (by omega) (fun i hi => by rw [hcv i (by omega)]; exact hall _ (List.getElem_mem _)) hfr hlo) (fun P a hp => ⟨hp.1, hp.2.1, hp.2.2.1, by rw [e]; exact hp.2.2.2⟩) (fun P a v B hp hq => ?_)
  obtain ⟨L, ⟨q1, q2, q3, q4, q5, q6, q7, ⟨V', v1, v2, v3, v4, v5⟩, q9⟩, hl, hc, hs⟩ := hq
  refine ⟨L, ⟨q1, q2, q3, q4, q5, q6, q7, ⟨V'.cls, v3, V', v1, rfl, by rw [v4, e, hlen], K4, fun i hi => ?_, fun i hi => ?_⟩, q9⟩, hl, hc, by rw [hs, e]⟩
  · have hi' : i < cs.length := by omega
    rw [v5 i (by omega), hcv i hi']; simp [List.getD_eq_getElem?_getD, hi']
  · have hi' : i < cs.length := by omega
    simp only [List.getD_eq_getElem?_getD, List.getElem?_map, List.getElem?_eq_getElem hi', Option.map_some, Option.getD_some]
    exact fits_lo8 _
end StrChars.Road
namespace StrChars.Road
open Jvm Sem ClassFile Op Lib Jvm.Stand Jvm.Free Jvm.Free.XT
/-- WHAT COMES BACK, in the writer's own shape -/
def QV (Z : State) (x : Addr) (N : Int32) (bs : List Int32) (h : Heap) (n0 : Nat) (v : Option Value) (h' : Heap) (L : List Loc) : Prop := v = none ∧ RoadKit.Fr n0 L ∧ RoadKit.Keep h h' [x] ∧ RoadKit.Exa Z h' x ST ∧ RoadKit.Fld Z h' x ST "coder" "B" (.int 0) ∧
  ∃ (t : Addr) (kb : ClassId), n0 ≤ t ∧ h.size ≤ t ∧ ¬ t = x ∧ RoadKit.Fld Z h' x ST "value" "[B" (.ref t) ∧ RoadKit.Arv Z h' t kb .byte N (bs.map Value.int) (.int 0)
/-- **new String(chars) AT A CALL, FOR THE WRITER**: a char[] of n known ints, each 0 to 255 -/
theorem backV {p : Program} {l : Launch} {e : Env} {R : Room} {s : State} {args : Array Value} {below : List Frame} {len W : Nat} {Z : State} {a0 : Array Value} {h : Heap} (hZ : Z.Warmed39 s.vm) (hw : ∀ d ∈ words, d.before a0 Z = true) {kI : Nat} (wi : (Jvm.Cond.instantiable ST kI).before a0 Z = true)
    {x b : Addr} {kC : ClassId} {cs bs : List Int32} {d v0 c0 : Value} {z N : Int32} {n n0 : Nat} (hx0 : n0 ≤ x) (hh0 : n0 ≤ h.size) (E : RoadKit.Exa Z h x ST) (V : RoadKit.Fld Z h x ST "value" "[B" v0) (C : RoadKit.Fld Z h x ST "coder" "B" c0) (K : RoadKit.Arv Z h b kC .char N (cs.map Value.int) d) (S : RoadKit.Sta Z h ST "COMPACT_STRINGS" "Z" (.int z)) (hz : ¬ z = 0)
    (hn : cs.length = n) (hN : N = Int32.ofNat n) (l0 : 0 < n) (l2 : n ≤ 4000) (hp : ∀ c ∈ cs, ¬ c < 0 ∧ ¬ (255 : Int32) < c) (hb : bs = cs.map (fun c => c.toInt8.toInt32)) (hfr : 4 ≤ R.frames) (hlo : W + 65 ≤ R.locals) :
    Back l R p e below s args (⟨"java/lang/String", "<init>", "([C)V"⟩ : MethodName) len W (fun P a => a = #[.ref x, .ref b] ∧ P.U.heap = h ∧ P.cells + 1 ≤ R.cells ∧ P.slots + n ≤ R.slots)
      (fun P _ v B => ∃ L, QV Z x N bs h n0 v B.U.heap L ∧ B.locs = P.locs ++ L ∧ B.cells = P.cells + 1 ∧ B.slots = P.slots + n) := by
  subst hn hN hb
  refine Back.mono (backArv hZ hw wi E V C K S hz (n32 (by omega)) l0 (by omega) (fun c hc => (hp c hc).2) hfr hlo) (fun P a hp => hp) (fun P a v B hp hq => ?_)
  obtain ⟨L, ⟨q1, q2, q3, q4, q5, q6, q7, ⟨kb, v1, v2⟩, q9⟩, hl, hc, hs⟩ := hq
  exact ⟨L, ⟨q1, fun y hy => by rw [q2 y hy]; exact hx0, q3, q5, q7, h.size, kb, hh0, Nat.le_refl _, Nat.ne_of_gt E.lt, q6, by rw [List.map_map]; exact v2⟩, hl, hc, hs⟩
end StrChars.Road
end Jvm.Pilot.@@N@@
namespace Jvm.RoadKit
open Sem ClassFile Op Lib Jvm.Stand Jvm.Free Jvm.LawKit
section Own
variable {p : Program} {l : Launch} {e : Env} {R : Room} {s : State} {m : MethodId} {args : Array Value} {below : List Frame} {meth : Method} {c : Code} {T : State} {locs : List Loc} {cells slots : Nat} {Z : State} {a0 : Array Value} {h h' h0 : Heap} {ws ws' : List Addr} {Q : Option Value → Heap → List Loc → Prop} {k n : Nat}
/-- the run from U comes to an end of which G speaks -/
def OEnd (p : Program) (e : Env) (below : List Frame) (G : Outcome → State → Prop) (U : State) : Prop := ∃ t o, Steps p.tables e below U t ∧ t.status = .running ∧ Ended t below o ∧ G o t
theorem OEnd.of {G : Outcome → State → Prop} {U U' : State} (q : ∀ t, Steps p.tables e below U' t → Steps p.tables e below U t) (k : OEnd p e below G U') : OEnd p e below G U := by
  obtain ⟨t, o, h1, h2⟩ := k
  exact ⟨t, o, q t h1, h2⟩
/-- a contract's end, nothing interned -/
def GN (s : State) (Q : Option Value → Heap → List Loc → Prop) (k n : Nat) (o : Outcome) (t : State) : Prop := ∃ v L, o = .returned v ∧ Q v t.heap L ∧ FrameEnd s o t L k n
theorem OEnd.out {v : Option Value} {g : JFrame} (X : Stand p l e R s m args below meth c T locs cells slots) (hlk : meth.locks = false) (eT : T.heap = h) (hv : meth.sig.returnType = none → v = none)
    (hs : ∀ fs, (∀ (f : JFrame) (acts : List Action), f.method = m → f.locked = none → f.entered = [] → (doReturn e (T.setTop f) acts v).1 = T.setFrames fs) → Steps p.tables e below (T.setTop g) (T.setFrames fs))
    (hQ : Q v h locs) (hk : cells ≤ k) (hn : slots ≤ n) : OEnd p e below (GN s Q k n) (T.setTop g) := by
  obtain ⟨fs, hr, hrun, hended, hW, hsame⟩ := X.leave (v := v) hv hlk
  exact ⟨_, _, hs fs hr, hrun, hended, v, locs, rfl, (by show Q v T.heap locs; rw [eT]; exact hQ), ⟨v, rfl⟩, hW, hsame.mono hk hn⟩
theorem OEnd.retV {pc : Nat} {Ls : Array Slot} (X : Stand p l e R s m args below meth c T locs cells slots) (hx : p.tables.exec = Jvm.exec) (hlk : meth.locks = false) (eT : T.heap = h) (hret : meth.sig.returnType = none) (hd : decode c.code pc = .ok (.return_, 1))
    (hQ : Q none h locs) (hk : cells ≤ k) (hn : slots ≤ n) : OEnd p e below (GN s Q k n) (T.setTop (mkF m pc Ls [])) :=
  OEnd.out X hlk eT (fun _ => rfl) (fun fs hr => X.returnOut hx hret hd hr) hQ hk hn
theorem OEnd.retN {pc : Nat} {Ls : Array Slot} {z : Int32} {t : FieldType} {rest : List Value} (X : Stand p l e R s m args below meth c T locs cells slots) (hx : p.tables.exec = Jvm.exec) (hlk : meth.locks = false) (eT : T.heap = h) (hret : meth.sig.returnType = some t) (ht : t = .boolean ∨ t = .byte ∨ t = .char ∨ t = .short)
    (hd : decode c.code pc = .ok (.ireturn, 1)) (hQ : Q (some (.int (nar t z))) h locs) (hk : cells ≤ k) (hn : slots ≤ n) : OEnd p e below (GN s Q k n) (T.setTop (mkF m pc Ls (.int z :: rest))) :=
  OEnd.out X hlk eT (fun q => by rw [hret] at q; cases q) (fun fs hr => Jvm.RoadKit.retN X hx hret ht hd hr) hQ hk hn
theorem OEnd.retI {pc : Nat} {Ls : Array Slot} {z : Int32} {rest : List Value} (X : Stand p l e R s m args below meth c T locs cells slots) (hx : p.tables.exec = Jvm.exec) (hlk : meth.locks = false) (eT : T.heap = h) (hret : meth.sig.returnType = some .int)
    (hd : decode c.code pc = .ok (.ireturn, 1)) (hQ : Q (some (.int z)) h locs) (hk : cells ≤ k) (hn : slots ≤ n) : OEnd p e below (GN s Q k n) (T.setTop (mkF m pc Ls (.int z :: rest))) :=
  OEnd.out X hlk eT (fun q => by rw [hret] at q; cases q) (fun fs hr => retOut X hx hret rfl (Or.inl ⟨rfl, Or.inl rfl, z, rfl⟩) hd hr) hQ hk hn
theorem OEnd.retJ {pc : Nat} {Ls : Array Slot} {z : Int64} {rest : List Value} (X : Stand p l e R s m args below meth c T locs cells slots) (hx : p.tables.exec = Jvm.exec) (hlk : meth.locks = false) (eT : T.heap = h) (hret : meth.sig.returnType = some .long)
    (hd : decode c.code pc = .ok (.lreturn, 1)) (hQ : Q (some (.long z)) h locs) (hk : cells ≤ k) (hn : slots ≤ n) : OEnd p e below (GN s Q k n) (T.setTop (mkF m pc Ls (.long z :: rest))) :=
  OEnd.out X hlk eT (fun q => by rw [hret] at q; cases q) (fun fs hr => retOut X hx hret rfl (Or.inr (Or.inl ⟨rfl, rfl, z, rfl⟩)) hd hr) hQ hk hn
theorem own_narRef {t : FieldType} {w : Value} (hw : w.isRef = true) : narrow t w = w := by cases w <;> first | (cases hw; done) | (cases t <;> rfl)
theorem OEnd.retA {pc : Nat} {Ls : Array Slot} {w : Value} {t : FieldType} {rest : List Value} (X : Stand p l e R s m args below meth c T locs cells slots) (hx : p.tables.exec = Jvm.exec) (hlk : meth.locks = false) (eT : T.heap = h) (hret : meth.sig.returnType = some t) (ht : t.isReference = true) (hw : w.isRef = true)
    (hd : decode c.code pc = .ok (.areturn, 1)) (hQ : Q (some w) h locs) (hk : cells ≤ k) (hn : slots ≤ n) : OEnd p e below (GN s Q k n) (T.setTop (mkF m pc Ls (w :: rest))) :=
  OEnd.out X hlk eT (fun q => by rw [hret] at q; cases q) (fun fs hr => retOut X hx hret (own_narRef hw) (Or.inr (Or.inr (Or.inr (Or.inr ⟨rfl, ht, hw⟩)))) hd hr) hQ hk hn
theorem own_stV {P : Value → Prop} {v : Value} (h : v.isRef = true) (h0 : P .null) (h1 : ∀ a, P (.ref a)) : P v := by
  rcases ref_cases h with rfl | ⟨a, rfl⟩
  · exact h0
  · exact h1 a
theorem own_cat {v : Value} (h : v.isRef = true) : v.category = 1 := own_stV (P := fun z => z.category = 1) h rfl (fun _ => rfl)
theorem own_extKeep (O : Ext h0 h) (K : Keep h h' ws) (q : ∀ x ∈ ws, h0.size ≤ x) : Ext h0 h' := ⟨Nat.le_trans O.1 K.1, fun x c r => K.2.1 x c (O.2 x c r) fun z => absurd (Array.getElem?_eq_some_iff.mp r).1 (Nat.not_lt.mpr (q x z))⟩
theorem own_keepMono (K : Keep h h' ws) (q : ∀ x ∈ ws, x ∈ ws') : Keep h h' ws' := ⟨K.1, fun x c r n => K.2.1 x c r (fun z => n (q x z)), K.2.2⟩
theorem own_fitsRef {ty : FieldType} {v : Value} (hv : v.isRef = true) (ht : ty.isReference = true) : fits ty v = true := by cases v <;> first | (cases hv; done) | (cases ty <;> first | (cases ht; done) | rfl)
/-- a private method selects itself (its class can be made, so it is no interface) -/
theorem own_selPriv {y : MethodName} {nn : Nat} (hZ : Z.Warmed39 s.vm) (wi : (Cond.instantiable y.cls nn).before a0 Z = true) (wp : (Cond.privateMethod y).before a0 Z = true) (wm : (Cond.instanceMethod y).before a0 Z = true) (hy : y.cls ≠ "java/lang/invoke/MethodHandle" ∧ y.cls ≠ "java/lang/invoke/VarHandle") : (Cond.selects y.cls y y).before args s = true := by
  have wi' : (Cond.instantiable y.cls nn).before #[] s = true := mv hZ wi
  obtain ⟨cc, kk, h1, h2, -, h3, -⟩ := Cond.instantiable_spec wi'
  exact selects_self_of_private h1 h2 (by simpa using (Bool.or_eq_false_iff.mp h3).1) (Cond.privateMethod_at (mvP hZ wp (args := #[]))) (mvT hZ wm) hy
/-- an object of a class right beneath the root is none of a class K that can be made -/
theorem own_notAssign {C O K : String} {nn : Nat} (w : (Cond.superclass C O).before a0 Z = true) (wo : (Cond.noSuperclass O).before a0 Z = true) (wi : (Cond.instantiable K nn).before a0 Z = true) (h1 : C ≠ K) (h2 : O ≠ K) : ∃ c t, Z.vm.findClass C = some c ∧ Z.vm.findClass K = some t ∧ Z.vm.assignable c t = false := by
  obtain ⟨cc, hc⟩ := found_sup w
  obtain ⟨pp, kk, kp, hp, hk, hkp, hsup, hkind, -, -⟩ := Cond.superclass_spec hc w
  obtain ⟨oo, ko, ho, hko, hnone, -, -⟩ := Cond.noSuperclass_spec wo
  obtain ⟨tt, kt, ht, hkt, hkindt, hif, -⟩ := Cond.instantiable_spec wi
  cases ho.symm.trans hp
  have ne1 := ids_ne hc ht h1
  have ne2 := ids_ne ho ht h2
  have hi : kt.isInterface = false := (Bool.or_eq_false_iff.mp hif).1
  have sb : ∀ f, Z.vm.isSubclassAux f cc tt = false := fun f => by
    match f with
    | 0 => rfl
    | 1 => simp [Vm.isSubclassAux, ne1, hk, hsup]
    | f + 2 => simp [Vm.isSubclassAux, ne1, ne2, hk, hsup, hko, hnone]
  refine ⟨cc, tt, hc, ht, ?_⟩
  show Z.vm.assignableAux (255 + 1) cc tt = false
  simp [Vm.assignableAux, ne1, hk, hkt, hkind, hkindt, hi, Vm.isSubclass, sb]
end Own
end Jvm.RoadKit
namespace Jvm.RoadKit
open Sem ClassFile Op Lib Bundle Jvm.Stand Jvm.Free Jvm.LawKit Jvm.Free.SB Jvm.Free.SBG
section OwnW
variable {p : Program} {l : Launch} {e : Env} {R : Room} {s : State} {m : MethodId} {args : Array Value} {below : List Frame} {meth : Method} {c : Code} {T : State} {locs : List Loc} {cells slots : Nat} {Z : State} {a0 : Array Value} {h h' h0 : Heap} {ws ws' : List Addr} {Q : Option Value → Heap → List Loc → Prop} {k n k0 : Nat} {vm0 vm : Vm} {EL : List (String × Nat)}
/-- a contract's end, constants may have been loaded -/
def GW (s Z : State) (EL : List (String × Nat)) (Q : Option Value → Heap → List Loc → Prop) (k n : Nat) (o : Outcome) (t : State) : Prop := ∃ v L, o = .returned v ∧ Q v t.heap L ∧ CHr Z EL s.vm s.heap t.vm t.heap ∧ ReturnedEndW s o t L k n
theorem OEnd.outW {v : Option Value} {g : JFrame} (X : Stand p l e R (s.setVm vm0) m args below meth c T locs cells slots) (hlk : meth.locks = false) (eT : T.heap = h) (hh : s.heap = h0) (hS : s.Since vm0 k0) (hk0 : k0 ≤ h.size) (hEL : EW Z a0 EL) (hZ : Z.Warmed39 vm0) (HR : CHr Z EL s.vm h0 vm0 h) (hv : meth.sig.returnType = none → v = none)
    (hs : ∀ fs, (∀ (f : JFrame) (acts : List Action), f.method = m → f.locked = none → f.entered = [] → (doReturn e (T.setTop f) acts v).1 = T.setFrames fs) → Steps p.tables e below (T.setTop g) (T.setFrames fs))
    (hQ : Q v h locs) (hk : cells ≤ k) (hn : slots ≤ n) : OEnd p e below (GW s Z EL Q k n) (T.setTop g) := by
  obtain ⟨fs, hr, hrun, hended, hv', hW, hB, hsame⟩ := X.leaveW hS (by rw [eT]; exact hk0) (v := v) hv hlk
  refine ⟨_, _, hs fs hr, hrun, hended, v, locs, rfl, (by show Q v T.heap locs; rw [eT]; exact hQ), ?_, hv', hW, hB, hsame.mono hk hn⟩
  show CHr Z EL s.vm s.heap T.vm T.heap
  rw [eT, hh]
  exact HR.trans (CHv.at X hZ hEL HR.1)
theorem OEnd.retVW {pc : Nat} {Ls : Array Slot} (X : Stand p l e R (s.setVm vm0) m args below meth c T locs cells slots) (hx : p.tables.exec = Jvm.exec) (hlk : meth.locks = false) (eT : T.heap = h) (hh : s.heap = h0) (hS : s.Since vm0 k0) (hk0 : k0 ≤ h.size) (hEL : EW Z a0 EL) (hZ : Z.Warmed39 vm0) (HR : CHr Z EL s.vm h0 vm0 h) (hret : meth.sig.returnType = none) (hd : decode c.code pc = .ok (.return_, 1))
    (hQ : Q none h locs) (hk : cells ≤ k) (hn : slots ≤ n) : OEnd p e below (GW s Z EL Q k n) (T.setTop (mkF m pc Ls [])) :=
  OEnd.outW X hlk eT hh hS hk0 hEL hZ HR (fun _ => rfl) (fun fs hr => X.returnOut hx hret hd hr) hQ hk hn
theorem OEnd.retNW {pc : Nat} {Ls : Array Slot} {z : Int32} {t : FieldType} {rest : List Value} (X : Stand p l e R (s.setVm vm0) m args below meth c T locs cells slots) (hx : p.tables.exec = Jvm.exec) (hlk : meth.locks = false) (eT : T.heap = h) (hh : s.heap = h0) (hS : s.Since vm0 k0) (hk0 : k0 ≤ h.size) (hEL : EW Z a0 EL) (hZ : Z.Warmed39 vm0) (HR : CHr Z EL s.vm h0 vm0 h) (hret : meth.sig.returnType = some t) (ht : t = .boolean ∨ t = .byte ∨ t = .char ∨ t = .short)
    (hd : decode c.code pc = .ok (.ireturn, 1)) (hQ : Q (some (.int (nar t z))) h locs) (hk : cells ≤ k) (hn : slots ≤ n) : OEnd p e below (GW s Z EL Q k n) (T.setTop (mkF m pc Ls (.int z :: rest))) :=
  OEnd.outW X hlk eT hh hS hk0 hEL hZ HR (fun q => by rw [hret] at q; cases q) (fun fs hr => Jvm.RoadKit.retN X hx hret ht hd hr) hQ hk hn
theorem OEnd.retIW {pc : Nat} {Ls : Array Slot} {z : Int32} {rest : List Value} (X : Stand p l e R (s.setVm vm0) m args below meth c T locs cells slots) (hx : p.tables.exec = Jvm.exec) (hlk : meth.locks = false) (eT : T.heap = h) (hh : s.heap = h0) (hS : s.Since vm0 k0) (hk0 : k0 ≤ h.size) (hEL : EW Z a0 EL) (hZ : Z.Warmed39 vm0) (HR : CHr Z EL s.vm h0 vm0 h) (hret : meth.sig.returnType = some .int)
    (hd : decode c.code pc = .ok (.ireturn, 1)) (hQ : Q (some (.int z)) h locs) (hk : cells ≤ k) (hn : slots ≤ n) : OEnd p e below (GW s Z EL Q k n) (T.setTop (mkF m pc Ls (.int z :: rest))) :=
  OEnd.outW X hlk eT hh hS hk0 hEL hZ HR (fun q => by rw [hret] at q; cases q) (fun fs hr => retOut X hx hret rfl (Or.inl ⟨rfl, Or.inl rfl, z, rfl⟩) hd hr) hQ hk hn
theorem OEnd.retAW {pc : Nat} {Ls : Array Slot} {w : Value} {t : FieldType} {rest : List Value} (X : Stand p l e R (s.setVm vm0) m args below meth c T locs cells slots) (hx : p.tables.exec = Jvm.exec) (hlk : meth.locks = false) (eT : T.heap = h) (hh : s.heap = h0) (hS : s.Since vm0 k0) (hk0 : k0 ≤ h.size) (hEL : EW Z a0 EL) (hZ : Z.Warmed39 vm0) (HR : CHr Z EL s.vm h0 vm0 h) (hret : meth.sig.returnType = some t) (ht : t.isReference = true) (hw : w.isRef = true)
    (hd : decode c.code pc = .ok (.areturn, 1)) (hQ : Q (some w) h locs) (hk : cells ≤ k) (hn : slots ≤ n) : OEnd p e below (GW s Z EL Q k n) (T.setTop (mkF m pc Ls (w :: rest))) :=
  OEnd.outW X hlk eT hh hS hk0 hEL hZ HR (fun q => by rw [hret] at q; cases q) (fun fs hr => retOut X hx hret (own_narRef hw) (Or.inr (Or.inr (Or.inr (Or.inr ⟨rfl, ht, hw⟩)))) hd hr) hQ hk hn
/-- a String whose bytes aren't laid yet is no booked constant -/
theorem own_safeNull {x : Addr} (hal : Z.vm.Alike vm) (E : Exa Z h x "java/lang/String") (F : Fld Z h x "java/lang/String" "value" "[B" .null) : Safe Z EL vm h x := fun B => by
  obtain ⟨p, -, u, a, -, q, -, ⟨cS, ⟨⟨s1, s2, s3, ⟨cv, kv, iv, s4, s4'⟩, -, s6, -, s8, -, s10, ⟨hst, kB, hkB, comp, hkindB⟩, -⟩, -, -⟩, ⟨kS, g1, g2, -⟩, hB, -⟩, rfl | rfl⟩ := B
  · obtain ⟨cell, cf, k, i, f, f1, f2, -, -, -, -, f7⟩ := F
    cases (show h[q.sa]? = some q.sC from s1).symm.trans f1
    obtain ⟨kv', z4⟩ := ff_back (Z := Z) (U := Wst Z vm h) hal s4
    have z4' : Z.fieldFound? "java/lang/String" "value" "[B" = some (cv, kv', iv, q.fSV) := z4
    rw [f2] at z4'
    cases z4'
    rw [show q.sC.slots[q.fSV.slot]? = some (.ref q.sd) from s8] at f7
    cases f7
  · obtain ⟨cell, k, e1, e2, e3, -⟩ := E
    cases (show h[q.sd]? = some q.SA from s10).symm.trans e1
    have hB' : Z.vm.findClass "[B" = some q.SA.cls := by rw [← hal.findClass]; exact hB
    exact ids_ne (Z := Z) e2 hB' (by decide) rfl
theorem own_safeArv {x : Addr} {kk : ClassId} {ty : FieldType} {z : Int32} {vs : List Value} {d : Value} (hal : Z.vm.Alike vm) (A : Arv Z h x kk ty z vs d) (ht : ty ≠ .byte) : Safe Z EL vm h x := by
  obtain ⟨cl, A1, -⟩ := A
  exact Safe.arr hal A1 ht
end OwnW
end Jvm.RoadKit
namespace Jvm.RoadKit
open Sem ClassFile Op Lib Jvm.Stand Jvm.Free Jvm.LawKit
/-- a String of these chars, each 0 to 255 -/
def IsStr (Z : State) (h : Heap) (a : Addr) (cs : List Int32) : Prop := Exa Z h a "java/lang/String" ∧ Fld Z h a "java/lang/String" "coder" "B" (.int 0) ∧
  (∃ (t : Addr) (kb : ClassId), Fld Z h a "java/lang/String" "value" "[B" (.ref t) ∧ Arv Z h t kb .byte (Int32.ofNat cs.length) ((cs.map fun c => c.toInt8.toInt32).map Value.int) (.int 0)) ∧ (∀ c ∈ cs, ¬ c < 0 ∧ ¬ (255 : Int32) < c) ∧ cs.length ≤ 4000
theorem IsStr.keep {Z : State} {h h' : Heap} {a : Addr} {cs : List Int32} (S : IsStr Z h a cs) (K : Keep h h' []) : IsStr Z h' a cs := by
  obtain ⟨E, C, ⟨t, kb, V, A⟩, r⟩ := S
  exact ⟨E.keep K, C.keep K nin0, ⟨t, kb, V.keep K nin0, A.keep K nin0⟩, r⟩
/-- a cell that is no String and no array -/
def Apart (Z : State) (h : Heap) (x : Addr) : Prop := (∀ a, Exa Z h a "java/lang/String" → x ≠ a) ∧ ∀ (b : Addr) (k : ClassId) (ty : FieldType) (z : Int32) (vs : List Value) (d : Value), Arv Z h b k ty z vs d → x ≠ b
theorem own_apart {Z : State} {a0 : Array Value} {h : Heap} {x : Addr} {C : String} {n : Nat} (E : Exa Z h x C) (w : (Cond.instantiable C n).before a0 Z = true) (hn : C ≠ "java/lang/String") : Apart Z h x := ⟨fun _ F => Exa.ne E F hn, fun _ _ _ _ _ _ F => Exa.neArv E F w⟩
theorem IsStr.keepA {Z : State} {h h' : Heap} {a : Addr} {cs : List Int32} {ws : List Addr} (S : IsStr Z h a cs) (K : Keep h h' ws) (q : ∀ x ∈ ws, Apart Z h x) : IsStr Z h' a cs := by
  obtain ⟨E, C, ⟨t, kb, V, A⟩, r⟩ := S
  have n1 : a ∉ ws := fun z => (q a z).1 a E rfl
  have n2 : t ∉ ws := fun z => (q t z).2 t _ _ _ _ _ A rfl
  exact ⟨E.keep K, C.keep K n1, ⟨t, kb, V.keep K n1, A.keep K n2⟩, r⟩
theorem IsStr.lt {Z : State} {h : Heap} {a : Addr} {cs : List Int32} (S : IsStr Z h a cs) : a < h.size := S.1.lt
theorem own_ch {x y : Int32} (q : (x &&& 255).toUInt32.toUInt16.toUInt32.toInt32 = y) : ¬ y < 0 ∧ ¬ (255 : Int32) < y := by
  rw [i2c_mask] at q
  subst q
  have e : (x &&& 255).toInt = x.toInt % 256 := Jvm.Kit.i32_mask x 255 (k := 8) (by decide) (by decide)
  have z : (0 : Int32).toInt = 0 := rfl
  have m : (255 : Int32).toInt = 255 := rfl
  exact ⟨fun q => by have := Int32.lt_iff_toInt_lt.mp q; omega, fun q => by have := Int32.lt_iff_toInt_lt.mp q; omega⟩
theorem own_narC {y : Int32} (h : ¬ y < 0 ∧ ¬ (255 : Int32) < y) : nar .char y = y := by
  have z : (0 : Int32).toInt = 0 := rfl
  have m : (255 : Int32).toInt = 255 := rfl
  have h1 : 0 ≤ y.toInt := by have := mt Int32.lt_iff_toInt_lt.mpr h.1; omega
  have h2 : y.toInt ≤ 255 := by have := mt Int32.lt_iff_toInt_lt.mpr h.2; omega
  have e : y &&& 255 = y := Int32.toInt_inj.mp (by
    rw [Jvm.Kit.i32_mask y 255 (k := 8) (by decide) (by decide)]
    omega)
  have q := i2c_mask y
  rw [e] at q
  exact q
theorem own_nar8 (x : Int32) : nar .byte x.toInt8.toInt32 = x.toInt8.toInt32 := by
  show x.toInt8.toInt32.toInt8.toInt32 = _
  simp
theorem own_up {cs : List Int32} (h : ∀ c ∈ cs, ¬ c < 0 ∧ ¬ (255 : Int32) < c) : ∀ c ∈ cs, ¬ c < 0 ∧ ¬ (65535 : Int32) < c := fun c hc => ⟨(h c hc).1, fun q => (h c hc).2 (Int32.lt_trans (by decide) q)⟩
theorem own_eqv {v : Option Value} {P : Prop} (h : (v = some (.int 1) ∧ P) ∨ (v = some (.int 0) ∧ ¬ P)) : ∃ bb : Int32, v = some (.int bb) ∧ ((bb = 1 ∧ P) ∨ (bb = 0 ∧ ¬ P)) := by
  rcases h with ⟨h, p⟩ | ⟨h, p⟩
  · exact ⟨1, h, Or.inl ⟨rfl, p⟩⟩
  · exact ⟨0, h, Or.inr ⟨rfl, p⟩⟩
theorem own_same {b e : Int32} {P : Prop} (h1 : (b = 1 ∧ P) ∨ (b = 0 ∧ ¬ P)) (h2 : (e = 1 ∧ P) ∨ (e = 0 ∧ ¬ P)) : b = e := by
  rcases h1 with ⟨rfl, p⟩ | ⟨rfl, p⟩
  · rcases h2 with ⟨rfl, q⟩ | ⟨rfl, q⟩
    · rfl
    · exact absurd p q
  · rcases h2 with ⟨rfl, q⟩ | ⟨rfl, q⟩
    · exact absurd q p
    · rfl
end Jvm.RoadKit
namespace Jvm.Pilot.@@N@@
open Jvm Jvm.ClassFile Sem Op Lib Jvm.Free Jvm.Stand Jvm.LawKit Jvm.RoadKit Bundle Jvm.Pilot.@@N@@.Jvm.D
abbrev EL : List (String × Nat) := []
theorem own_strAtoms : ∀ d ∈ Bundle.stringAtoms, d ∈ tables_1 := by decide +kernel
theorem own_strWords : ∀ d ∈ StrChars.Road.words, d ∈ tables_1 := by decide +kernel
theorem d8_0 : decode jdk_43_method_3_code 0 = .ok (.iload_n 0, 1) := by decide +kernel
theorem d8_1 : decode jdk_43_method_3_code 1 = .ok (.sipush 255, 3) := by decide +kernel
theorem d8_4 : decode jdk_43_method_3_code 4 = .ok (.if_icmp .gt 7, 3) := by decide +kernel
theorem d8_7 : decode jdk_43_method_3_code 7 = .ok (.iconst 1, 1) := by decide +kernel
theorem d8_8 : decode jdk_43_method_3_code 8 = .ok (.goto 4, 3) := by decide +kernel
theorem d8_12 : decode jdk_43_method_3_code 12 = .ok (.ireturn, 1) := by decide +kernel
theorem pn_java_lang_StringLatin1 : plainName "java/lang/StringLatin1" = true := by first | (simp [plainName, overriddenIn]; done) | decide +kernel
abbrev RMrmCan : Room := { frames := 0, cells := 0, slots := 0, locals := 0 }
theorem ef_rmCan (m : MethodId) (ch : Int32) : entryFrame m #[(.int ch)] 1 = mkF m 0 #[.val (.int ch)] [] := by first | (simp [entryFrame, mkF, argsToLocals, Value.category]; done) | rfl
def QrmCan (Z : State) (zc : Int32) (k_BOOL : Addr) (k_INT : Addr) (ch : Int32) (h0 : Heap) (v : Option Value) (h : Heap) (L : List Loc) : Prop := v = some (.int (1 : Int32)) ∧ Fr Z.heap.size L ∧ h = h0
set_option maxRecDepth 65536 in
set_option maxHeartbeats 40000000 in
theorem rmCan (l : Launch) (Z : State) (a0 : Array Value) (hw : ∀ d ∈ tables_1, d.before a0 Z = true) (zc : Int32) (k_BOOL : Addr) (k_INT : Addr) (S_CS : Sta Z Z.heap "java/lang/String" "COMPACT_STRINGS" "Z" (.int zc)) (hzc : ¬ zc = 0) (S_BOOL : Sta Z Z.heap "com/example/thorough_topology/thoroughtopology/model/Sort" "BOOL" "Lcom/example/thorough_topology/thoroughtopology/model/Sort;" (.ref k_BOOL)) (S_INT : Sta Z Z.heap "com/example/thorough_topology/thoroughtopology/model/Sort" "INT" "Lcom/example/thorough_topology/thoroughtopology/model/Sort;" (.ref k_INT)) (E_BOOL : Exa Z Z.heap k_BOOL "com/example/thorough_topology/thoroughtopology/model/Sort") (E_INT : Exa Z Z.heap k_INT "com/example/thorough_topology/thoroughtopology/model/Sort") (ws : List Jvm.Cond) (ch : Int32) (h0 : Heap) (O0 : Ext Z.heap h0) (hch_ch : ¬ ch < 0 ∧ ¬ (255 : Int32) < ch) :
    MetFree l (⟨"java/lang/StringLatin1", "canEncode", "(C)Z"⟩ : MethodName) (head1 (Jvm.Cond.code (⟨"java/lang/StringLatin1", "canEncode", "(C)Z"⟩ : MethodName) jdk_43_method_3_code 1 (some .boolean) :: ws) RMrmCan) (fun a U => a = #[(.int ch)] ∧ Z.Warmed39 U.vm ∧ U.heap = h0) (fun _ _ _ _ _ => True) (fun _ U o U' => ∃ v L, o = .returned v ∧ QrmCan Z zc k_BOOL k_INT ch h0 v U'.heap L ∧ FrameEnd U o U' L RMrmCan.cells RMrmCan.slots) := by
  refine MetFree.of_bodySF (plainFor_of_name pn_java_lang_StringLatin1) hisR ?_
  intro p e s m args below meth c s₁ Bd hml0 hP hK
  obtain ⟨rfl, hZ, hh⟩ := hP
  have hx := Bd.exec
  have hby := Bd.bytes
  have hlk : meth.locks = false := BodyLoose.notSynchronized Bd
  have hret := Bd.returns
  have hml : c.maxLocals = 1 := hml0
  have hown : s.vm.findClass "java/lang/StringLatin1" = some m.cls := findClass_of_methodNamed Bd.named
  have hnm := (name_of_methodNamed Bd.named Bd.method).1
  have X0 : Stand p l e RMrmCan s m #[(.int ch)] below meth c s₁ [] 0 0 := Stand.of_body Bd
  have e0 : s₁.heap = h0 := by rw [← hh, Bd.state]; rfl
  have N0 := Fr.nil Z.heap.size
  show OEnd p e below (GN s (QrmCan Z zc k_BOOL k_INT ch h0) RMrmCan.cells RMrmCan.slots) _
  refine OEnd.of (fun t k => castTop (ef_rmCan m ch) k) ?_
  refine OEnd.of (fun t k => XS.iloadN X0.here hx rfl (hb hby d8_0) rfl k) ?_
  show OEnd p e below _ (s₁.setTop (mkF m 1 #[.val (.int ch)] [(.int ch)]))
  refine OEnd.of (fun t k => XS.sipush X0.here hx rfl (hb hby d8_1) k) ?_
  show OEnd p e below _ (s₁.setTop (mkF m 4 #[.val (.int ch)] [(.int (255 : Int32)), (.int ch)]))
  refine OEnd.of (fun t k => XS.icmpNo X0.here hx rfl (hb hby d8_4) rfl (flt hch_ch.2).2.2.1 k) ?_
  show OEnd p e below _ (s₁.setTop (mkF m 7 #[.val (.int ch)] []))
  refine OEnd.of (fun t k => XS.iconst X0.here hx rfl (hb hby d8_7) k) ?_
  show OEnd p e below _ (s₁.setTop (mkF m 8 #[.val (.int ch)] [(.int (1 : Int32))]))
  refine OEnd.of (fun t k => XS.goto X0.here hx rfl (pc0 := 8) (pc' := 12) rfl (hb hby d8_8) (by decide) (by decide) k) ?_
  show OEnd p e below _ (s₁.setTop (mkF m 12 #[.val (.int ch)] [(.int (1 : Int32))]))
  exact OEnd.retN X0 hx hlk e0 (t := .boolean) hret (by simp) (hb hby d8_12) ⟨rfl, N0, rfl⟩ (by decide) (by decide)
theorem d9_0 : decode jdk_43_method_46_code 0 = .ok (.iconst 1, 1) := by decide +kernel
theorem d9_1 : decode jdk_43_method_46_code 1 = .ok (.newarray .byte, 2) := by decide +kernel
theorem d9_3 : decode jdk_43_method_46_code 3 = .ok (.dup, 1) := by decide +kernel
theorem d9_4 : decode jdk_43_method_46_code 4 = .ok (.iconst 0, 1) := by decide +kernel
theorem d9_5 : decode jdk_43_method_46_code 5 = .ok (.iload_n 0, 1) := by decide +kernel
theorem d9_6 : decode jdk_43_method_46_code 6 = .ok (.i2b, 1) := by decide +kernel
theorem d9_7 : decode jdk_43_method_46_code 7 = .ok (.bastore, 1) := by decide +kernel
theorem d9_8 : decode jdk_43_method_46_code 8 = .ok (.areturn, 1) := by decide +kernel
abbrev RMrmToB : Room := { frames := 0, cells := 1, slots := 1, locals := 0 }
theorem ef_rmToB (m : MethodId) (ch : Int32) : entryFrame m #[(.int ch)] 1 = mkF m 0 #[.val (.int ch)] [] := by first | (simp [entryFrame, mkF, argsToLocals, Value.category]; done) | rfl
def QrmToB (Z : State) (zc : Int32) (k_BOOL : Addr) (k_INT : Addr) (ch : Int32) (h0 : Heap) (v : Option Value) (h : Heap) (L : List Loc) : Prop := ∃ (t : Addr) (kb : ClassId), v = some (.ref t) ∧ Fr Z.heap.size L ∧ Keep h0 h [] ∧ Arv Z h t kb .byte (1 : Int32) [(.int (ch.toInt8.toInt32))] (.int (0 : Int32))
set_option maxRecDepth 65536 in
set_option maxHeartbeats 40000000 in
theorem rmToB (l : Launch) (Z : State) (a0 : Array Value) (hw : ∀ d ∈ tables_1, d.before a0 Z = true) (zc : Int32) (k_BOOL : Addr) (k_INT : Addr) (S_CS : Sta Z Z.heap "java/lang/String" "COMPACT_STRINGS" "Z" (.int zc)) (hzc : ¬ zc = 0) (S_BOOL : Sta Z Z.heap "com/example/thorough_topology/thoroughtopology/model/Sort" "BOOL" "Lcom/example/thorough_topology/thoroughtopology/model/Sort;" (.ref k_BOOL)) (S_INT : Sta Z Z.heap "com/example/thorough_topology/thoroughtopology/model/Sort" "INT" "Lcom/example/thorough_topology/thoroughtopology/model/Sort;" (.ref k_INT)) (E_BOOL : Exa Z Z.heap k_BOOL "com/example/thorough_topology/thoroughtopology/model/Sort") (E_INT : Exa Z Z.heap k_INT "com/example/thorough_topology/thoroughtopology/model/Sort") (ws : List Jvm.Cond) (ch : Int32) (h0 : Heap) (O0 : Ext Z.heap h0) :
    MetFree l (⟨"java/lang/StringLatin1", "toBytes", "(C)[B"⟩ : MethodName) (head1 (Jvm.Cond.code (⟨"java/lang/StringLatin1", "toBytes", "(C)[B"⟩ : MethodName) jdk_43_method_46_code 1 (some (.array .byte)) :: ws) RMrmToB) (fun a U => a = #[(.int ch)] ∧ Z.Warmed39 U.vm ∧ U.heap = h0) (fun _ _ _ _ _ => True) (fun _ U o U' => ∃ v L, o = .returned v ∧ QrmToB Z zc k_BOOL k_INT ch h0 v U'.heap L ∧ FrameEnd U o U' L RMrmToB.cells RMrmToB.slots) := by
  refine MetFree.of_bodySF (plainFor_of_name pn_java_lang_StringLatin1) hisR ?_
  intro p e s m args below meth c s₁ Bd hml0 hP hK
  obtain ⟨rfl, hZ, hh⟩ := hP
  have hx := Bd.exec
  have hby := Bd.bytes
  have hlk : meth.locks = false := BodyLoose.notSynchronized Bd
  have hret := Bd.returns
  have hml : c.maxLocals = 1 := hml0
  have hown : s.vm.findClass "java/lang/StringLatin1" = some m.cls := findClass_of_methodNamed Bd.named
  have hnm := (name_of_methodNamed Bd.named Bd.method).1
  have X0 : Stand p l e RMrmToB s m #[(.int ch)] below meth c s₁ [] 0 0 := Stand.of_body Bd
  have e0 : s₁.heap = h0 := by rw [← hh, Bd.state]; rfl
  have N0 := Fr.nil Z.heap.size
  show OEnd p e below (GN s (QrmToB Z zc k_BOOL k_INT ch h0) RMrmToB.cells RMrmToB.slots) _
  refine OEnd.of (fun t k => castTop (ef_rmToB m ch) k) ?_
  refine OEnd.of (fun t k => XS.iconst X0.here hx rfl (hb hby d9_0) k) ?_
  show OEnd p e below _ (s₁.setTop (mkF m 1 #[.val (.int ch)] [(.int (1 : Int32))]))
  obtain ⟨T1, h1, k1, X1, e1, E1, A1, st1⟩ := newP X0 hx hZ (hw _ (List.mem_of_getElem? (i := 19) rfl)) e0 (g := (mkF m 1 #[.val (.int ch)] [(.int (1 : Int32))])) rfl (hb hby d9_1) rfl (by decide) (cap := 1) (by decide) (by decide) (by decide) (by decide)
  obtain ⟨b1, g1⟩ : ∃ z, z = h0.size := ⟨_, rfl⟩
  rw [← g1] at A1 st1
  refine OEnd.of st1 ?_
  have V1 : Arv Z h1 b1 k1 .byte (1 : Int32) [(.int (0 : Int32))] (.int (0 : Int32)) := (Arv.new A1 (by decide)).pad (pad_rep [] (.int (0 : Int32)) 1)
  have f1 : Z.heap.size ≤ b1 := Nat.le_trans O0.1 (Nat.le_of_eq g1.symm)
  show OEnd p e below _ (T1.setTop (mkF m 3 #[.val (.int ch)] [(.ref b1)]))
  refine OEnd.of (fun t k => XS.dup X1.here hx rfl (hb hby d9_3) rfl rfl k) ?_
  show OEnd p e below _ (T1.setTop (mkF m 4 #[.val (.int ch)] [(.ref b1), (.ref b1)]))
  refine OEnd.of (fun t k => XS.iconst X1.here hx rfl (hb hby d9_4) k) ?_
  show OEnd p e below _ (T1.setTop (mkF m 5 #[.val (.int ch)] [(.int (0 : Int32)), (.ref b1), (.ref b1)]))
  refine OEnd.of (fun t k => XS.iloadN X1.here hx rfl (hb hby d9_5) rfl k) ?_
  show OEnd p e below _ (T1.setTop (mkF m 6 #[.val (.int ch)] [(.int ch), (.int (0 : Int32)), (.ref b1), (.ref b1)]))
  refine OEnd.of (fun t k => XS.i2b X1.here hx rfl (hb hby d9_6) rfl k) ?_
  show OEnd p e below _ (T1.setTop (mkF m 7 #[.val (.int ch)] [(.int (ch.toInt8.toInt32)), (.int (0 : Int32)), (.ref b1), (.ref b1)]))
  have Vc2 := V1
  obtain ⟨cl2, Ar2, q2, S2, N2, H2, G2⟩ := Vc2
  have hin2 : ¬ ((0 : Int32) < 0 ∨ cl2.slots.size ≤ ((0 : Int32)).toNatClampNeg) := inb_of S2 ⟨by decide, by decide⟩
  obtain ⟨T2, h2, X2, e2, W2, st2⟩ := stB X1 hx hZ e1 Ar2 (j := (0 : Int32)) hin2 (g := (mkF m 7 #[.val (.int ch)] [(.int (ch.toInt8.toInt32)), (.int (0 : Int32)), (.ref b1), (.ref b1)])) rfl rfl (hb hby d9_7)
  refine OEnd.of st2 ?_
  rw [own_nar8] at W2
  have V3 : Arv Z h2 b1 k1 .byte (1 : Int32) [(.int (ch.toInt8.toInt32))] (.int (0 : Int32)) := Arv.set Ar2 q2 S2 N2 H2 G2 (fits_nar_byte _) W2 0 rfl (Nat.le_of_ble_eq_true rfl)
  have N4 := Fr.snoc X2 N0 f1
  show OEnd p e below _ (T2.setTop (mkF m 8 #[.val (.int ch)] [(.ref b1)]))
  have K5 : Keep h0 h2 [] := (((Keep.refl h0 []).ext E1).wr W2 (Or.inr (Nat.le_of_eq g1.symm)))
  exact OEnd.retA X2 hx hlk e2 hret rfl rfl (hb hby d9_8) ⟨b1, k1, rfl, N4, K5, V3⟩ (by decide) (by decide)
theorem d10_0 : decode jdk_42_method_151_code 0 = .ok (.aload_n 0, 1) := by decide +kernel
theorem d10_1 : decode jdk_42_method_151_code 1 = .ok (.invokespecial 1, 3) := by decide +kernel
theorem d10_4 : decode jdk_42_method_151_code 4 = .ok (.aload_n 0, 1) := by decide +kernel
theorem d10_5 : decode jdk_42_method_151_code 5 = .ok (.aload_n 1, 1) := by decide +kernel
theorem d10_6 : decode jdk_42_method_151_code 6 = .ok (.putfield 9, 3) := by decide +kernel
theorem d10_9 : decode jdk_42_method_151_code 9 = .ok (.aload_n 0, 1) := by decide +kernel
theorem d10_10 : decode jdk_42_method_151_code 10 = .ok (.iload_n 2, 1) := by decide +kernel
theorem d10_11 : decode jdk_42_method_151_code 11 = .ok (.putfield 15, 3) := by decide +kernel
theorem d10_14 : decode jdk_42_method_151_code 14 = .ok (.return_, 1) := by decide +kernel
theorem pn_java_lang_String : plainName "java/lang/String" = true := by first | (simp [plainName, overriddenIn]; done) | decide +kernel
abbrev RMrmIBB : Room := { frames := 1, cells := 0, slots := 0, locals := 12 }
theorem ef_rmIBB (m : MethodId) (a1 : Addr) (a2 : Addr) : entryFrame m #[(.ref a1), (.ref a2), (.int (0 : Int32))] 3 = mkF m 0 #[.val (.ref a1), .val (.ref a2), .val (.int (0 : Int32))] [] := by first | (simp [entryFrame, mkF, argsToLocals, Value.category]; done) | rfl
def QrmIBB (Z : State) (zc : Int32) (k_BOOL : Addr) (k_INT : Addr) (a1 : Addr) (a2 : Addr) (h0 : Heap) (v : Option Value) (h : Heap) (L : List Loc) : Prop := v = none ∧ Fr Z.heap.size L ∧ Keep h0 h [a1] ∧ Exa Z h a1 "java/lang/String" ∧ Fld Z h a1 "java/lang/String" "value" "[B" (.ref a2) ∧ Fld Z h a1 "java/lang/String" "coder" "B" (.int (0 : Int32))
set_option maxRecDepth 65536 in
set_option maxHeartbeats 40000000 in
theorem rmIBB (l : Launch) (Z : State) (a0 : Array Value) (hw : ∀ d ∈ tables_1, d.before a0 Z = true) (zc : Int32) (k_BOOL : Addr) (k_INT : Addr) (S_CS : Sta Z Z.heap "java/lang/String" "COMPACT_STRINGS" "Z" (.int zc)) (hzc : ¬ zc = 0) (S_BOOL : Sta Z Z.heap "com/example/thorough_topology/thoroughtopology/model/Sort" "BOOL" "Lcom/example/thorough_topology/thoroughtopology/model/Sort;" (.ref k_BOOL)) (S_INT : Sta Z Z.heap "com/example/thorough_topology/thoroughtopology/model/Sort" "INT" "Lcom/example/thorough_topology/thoroughtopology/model/Sort;" (.ref k_INT)) (E_BOOL : Exa Z Z.heap k_BOOL "com/example/thorough_topology/thoroughtopology/model/Sort") (E_INT : Exa Z Z.heap k_INT "com/example/thorough_topology/thoroughtopology/model/Sort") (ws : List Jvm.Cond) (a1 : Addr) (a2 : Addr) (h0 : Heap) (O0 : Ext Z.heap h0) (E1 : Exa Z h0 a1 "java/lang/String") (Fv : Fld Z h0 a1 "java/lang/String" "value" "[B" .null) (Fc : Fld Z h0 a1 "java/lang/String" "coder" "B" (.int (0 : Int32))) (g1 : Z.heap.size ≤ a1) :
    MetFree l (⟨"java/lang/String", "<init>", "([BB)V"⟩ : MethodName) (head1 (Jvm.Cond.code (⟨"java/lang/String", "<init>", "([BB)V"⟩ : MethodName) jdk_42_method_151_code 3 none :: ws) RMrmIBB) (fun a U => a = #[(.ref a1), (.ref a2), (.int (0 : Int32))] ∧ Z.Warmed39 U.vm ∧ U.heap = h0) (fun _ _ _ _ _ => True) (fun _ U o U' => ∃ v L, o = .returned v ∧ QrmIBB Z zc k_BOOL k_INT a1 a2 h0 v U'.heap L ∧ FrameEnd U o U' L RMrmIBB.cells RMrmIBB.slots) := by
  refine MetFree.of_bodySF (plainFor_of_name pn_java_lang_String) hisR ?_
  intro p e s m args below meth c s₁ Bd hml0 hP hK
  obtain ⟨rfl, hZ, hh⟩ := hP
  have hx := Bd.exec
  have hby := Bd.bytes
  have hlk : meth.locks = false := BodyLoose.notSynchronized Bd
  have hret := Bd.returns
  have hml : c.maxLocals = 3 := hml0
  have hown : s.vm.findClass "java/lang/String" = some m.cls := findClass_of_methodNamed Bd.named
  have hnm := (name_of_methodNamed Bd.named Bd.method).1
  have X0 : Stand p l e RMrmIBB s m #[(.ref a1), (.ref a2), (.int (0 : Int32))] below meth c s₁ [] 0 0 := Stand.of_body Bd
  have e0 : s₁.heap = h0 := by rw [← hh, Bd.state]; rfl
  have N0 := Fr.nil Z.heap.size
  show OEnd p e below (GN s (QrmIBB Z zc k_BOOL k_INT a1 a2 h0) RMrmIBB.cells RMrmIBB.slots) _
  refine OEnd.of (fun t k => castTop (ef_rmIBB m a1 a2) k) ?_
  refine OEnd.of (fun t k => XS.aloadN X0.here hx rfl (hb hby d10_0) rfl rfl k) ?_
  show OEnd p e below _ (s₁.setTop (mkF m 1 #[.val (.ref a1), .val (.ref a2), .val (.int (0 : Int32))] [(.ref a1)]))
  obtain ⟨T6, X6, e6, st6⟩ := initO X0 hx hZ hown (hw _ (List.mem_of_getElem? (i := 11) rfl)) (hw _ (List.mem_of_getElem? (i := 12) rfl)) (hw _ (List.mem_of_getElem? (i := 13) rfl)) e0 (g := (mkF m 1 #[.val (.ref a1), .val (.ref a2), .val (.int (0 : Int32))] [(.ref a1)])) rfl (by rw [hml]; rfl) rfl (hb hby d10_1) (by decide) (W := 0) (by show 2 * 0 + _ ≤ _; exact Nat.le_of_eq rfl) (by decide)
  refine OEnd.of st6 ?_
  show OEnd p e below _ (T6.setTop (mkF m 4 #[.val (.ref a1), .val (.ref a2), .val (.int (0 : Int32))] []))
  refine OEnd.of (fun t k => XS.aloadN X6.here hx rfl (hb hby d10_4) rfl rfl k) ?_
  show OEnd p e below _ (T6.setTop (mkF m 5 #[.val (.ref a1), .val (.ref a2), .val (.int (0 : Int32))] [(.ref a1)]))
  refine OEnd.of (fun t k => XS.aloadN X6.here hx rfl (hb hby d10_5) rfl rfl k) ?_
  show OEnd p e below _ (T6.setTop (mkF m 6 #[.val (.ref a1), .val (.ref a2), .val (.int (0 : Int32))] [(.ref a2), (.ref a1)]))
  obtain ⟨T7, h7, X7, e7, W7, st7⟩ := putF X6 hx hZ hown (host := "") (Or.inl (hw _ (List.mem_of_getElem? (i := 28) rfl))) Via.refl e6 Fv E1 (Or.inr ⟨(hw _ (List.mem_of_getElem? (i := 29) rfl)), rfl, hnm⟩) (hw _ (List.mem_of_getElem? (i := 2) rfl)) (ty := (.array .byte)) (by decide) rfl rfl (g := (mkF m 6 #[.val (.ref a1), .val (.ref a2), .val (.int (0 : Int32))] [(.ref a2), (.ref a1)])) rfl rfl (hb hby d10_6)
  refine OEnd.of st7 ?_
  have F8 : Fld Z h7 a1 "java/lang/String" "value" "[B" (.ref a2) := Fld.same W7 Fv
  have E9 : Exa Z h7 a1 "java/lang/String" := E1.wr W7
  have F10 : Fld Z h7 a1 "java/lang/String" "coder" "B" (.int (0 : Int32)) := Fc.other W7 (Or.inr (slot_ne (Or.inr (hw _ (List.mem_of_getElem? (i := 27) rfl))) (Or.inr (hw _ (List.mem_of_getElem? (i := 29) rfl))) (by decide) (t := .byte) (t' := (.array .byte)) (by decide) (by decide)))
  have N11 := Fr.snoc X7 N0 g1
  show OEnd p e below _ (T7.setTop (mkF m 9 #[.val (.ref a1), .val (.ref a2), .val (.int (0 : Int32))] []))
  refine OEnd.of (fun t k => XS.aloadN X7.here hx rfl (hb hby d10_9) rfl rfl k) ?_
  show OEnd p e below _ (T7.setTop (mkF m 10 #[.val (.ref a1), .val (.ref a2), .val (.int (0 : Int32))] [(.ref a1)]))
  refine OEnd.of (fun t k => XS.iloadN X7.here hx rfl (hb hby d10_10) rfl k) ?_
  show OEnd p e below _ (T7.setTop (mkF m 11 #[.val (.ref a1), .val (.ref a2), .val (.int (0 : Int32))] [(.int (0 : Int32)), (.ref a1)]))
  obtain ⟨T12, h12, X12, e12, W12, st12⟩ := putFN X7 hx hZ hown (hw _ (List.mem_of_getElem? (i := 26) rfl)) Via.refl e7 F10 E9 (Or.inr ⟨(hw _ (List.mem_of_getElem? (i := 27) rfl)), rfl, hnm⟩) (hw _ (List.mem_of_getElem? (i := 2) rfl)) (ty := .byte) (v' := (.int (0 : Int32))) (by decide) rfl (by decide) (g := (mkF m 11 #[.val (.ref a1), .val (.ref a2), .val (.int (0 : Int32))] [(.int (0 : Int32)), (.ref a1)])) rfl rfl (hb hby d10_11)
  refine OEnd.of st12 ?_
  have F13 : Fld Z h12 a1 "java/lang/String" "coder" "B" (.int (0 : Int32)) := Fld.same W12 F10
  have E14 : Exa Z h12 a1 "java/lang/String" := E9.wr W12
  have F15 : Fld Z h12 a1 "java/lang/String" "value" "[B" (.ref a2) := F8.other W12 (Or.inr (slot_ne (Or.inr (hw _ (List.mem_of_getElem? (i := 29) rfl))) (Or.inr (hw _ (List.mem_of_getElem? (i := 27) rfl))) (by decide) (t := (.array .byte)) (t' := .byte) (by decide) (by decide)))
  have N16 := Fr.snoc X12 N11 g1
  show OEnd p e below _ (T12.setTop (mkF m 14 #[.val (.ref a1), .val (.ref a2), .val (.int (0 : Int32))] []))
  have K17 : Keep h0 h12 [a1] := (((Keep.refl h0 [a1]).wr W7 (Or.inl (List.mem_of_getElem? (i := 0) rfl))).wr W12 (Or.inl (List.mem_of_getElem? (i := 0) rfl)))
  exact OEnd.retV X12 hx hlk e12 hret (hb hby d10_14) ⟨rfl, N16, K17, E14, F15, F13⟩ (by decide) (by decide)
theorem pd_28C29Z : parseMethodDescriptor "(C)Z" = some ⟨[.char], some .boolean⟩ := by decide +kernel
theorem pd_28C295bB : parseMethodDescriptor "(C)[B" = some ⟨[.char], some (.array .byte)⟩ := by decide +kernel
theorem pd_285bBB29V : parseMethodDescriptor "([BB)V" = some ⟨[(.array .byte), .byte], none⟩ := by decide +kernel
theorem d7_0 : decode jdk_42_method_139_code 0 = .ok (.getstatic 38, 3) := by decide +kernel
theorem d7_3 : decode jdk_42_method_139_code 3 = .ok (.ifCond .eq 23, 3) := by decide +kernel
theorem d7_6 : decode jdk_42_method_139_code 6 = .ok (.iload_n 0, 1) := by decide +kernel
theorem d7_7 : decode jdk_42_method_139_code 7 = .ok (.invokestatic 1015, 3) := by decide +kernel
theorem d7_10 : decode jdk_42_method_139_code 10 = .ok (.ifCond .eq 16, 3) := by decide +kernel
theorem d7_13 : decode jdk_42_method_139_code 13 = .ok (.new 10, 3) := by decide +kernel
theorem d7_16 : decode jdk_42_method_139_code 16 = .ok (.dup, 1) := by decide +kernel
theorem d7_17 : decode jdk_42_method_139_code 17 = .ok (.iload_n 0, 1) := by decide +kernel
theorem d7_18 : decode jdk_42_method_139_code 18 = .ok (.invokestatic 1018, 3) := by decide +kernel
theorem d7_21 : decode jdk_42_method_139_code 21 = .ok (.iconst 0, 1) := by decide +kernel
theorem d7_22 : decode jdk_42_method_139_code 22 = .ok (.invokespecial 209, 3) := by decide +kernel
theorem d7_25 : decode jdk_42_method_139_code 25 = .ok (.areturn, 1) := by decide +kernel
abbrev RMrmVal : Room := { frames := 2, cells := 2, slots := 5, locals := 27 }
theorem ef_rmVal (m : MethodId) (ch : Int32) : entryFrame m #[(.int ch)] 1 = mkF m 0 #[.val (.int ch)] [] := by first | (simp [entryFrame, mkF, argsToLocals, Value.category]; done) | rfl
def QrmVal (Z : State) (zc : Int32) (k_BOOL : Addr) (k_INT : Addr) (ch : Int32) (h0 : Heap) (v : Option Value) (h : Heap) (L : List Loc) : Prop := ∃ (r : Addr), v = some (.ref r) ∧ Fr Z.heap.size L ∧ Keep h0 h [] ∧ IsStr Z h r [ch]
set_option maxRecDepth 65536 in
set_option maxHeartbeats 40000000 in
theorem rmVal (l : Launch) (Z : State) (a0 : Array Value) (hw : ∀ d ∈ tables_1, d.before a0 Z = true) (zc : Int32) (k_BOOL : Addr) (k_INT : Addr) (S_CS : Sta Z Z.heap "java/lang/String" "COMPACT_STRINGS" "Z" (.int zc)) (hzc : ¬ zc = 0) (S_BOOL : Sta Z Z.heap "com/example/thorough_topology/thoroughtopology/model/Sort" "BOOL" "Lcom/example/thorough_topology/thoroughtopology/model/Sort;" (.ref k_BOOL)) (S_INT : Sta Z Z.heap "com/example/thorough_topology/thoroughtopology/model/Sort" "INT" "Lcom/example/thorough_topology/thoroughtopology/model/Sort;" (.ref k_INT)) (E_BOOL : Exa Z Z.heap k_BOOL "com/example/thorough_topology/thoroughtopology/model/Sort") (E_INT : Exa Z Z.heap k_INT "com/example/thorough_topology/thoroughtopology/model/Sort") (ws : List Jvm.Cond) (ch : Int32) (h0 : Heap) (O0 : Ext Z.heap h0) (hch_ch : ¬ ch < 0 ∧ ¬ (255 : Int32) < ch) :
    MetFree l (⟨"java/lang/String", "valueOf", "(C)Ljava/lang/String;"⟩ : MethodName) (head1 (Jvm.Cond.code (⟨"java/lang/String", "valueOf", "(C)Ljava/lang/String;"⟩ : MethodName) jdk_42_method_139_code 1 (some (.object "java/lang/String")) :: ws) RMrmVal) (fun a U => a = #[(.int ch)] ∧ Z.Warmed39 U.vm ∧ U.heap = h0) (fun _ _ _ _ _ => True) (fun _ U o U' => ∃ v L, o = .returned v ∧ QrmVal Z zc k_BOOL k_INT ch h0 v U'.heap L ∧ FrameEnd U o U' L RMrmVal.cells RMrmVal.slots) := by
  refine MetFree.of_bodySF (plainFor_of_name pn_java_lang_String) hisR ?_
  intro p e s m args below meth c s₁ Bd hml0 hP hK
  obtain ⟨rfl, hZ, hh⟩ := hP
  have hx := Bd.exec
  have hby := Bd.bytes
  have hlk : meth.locks = false := BodyLoose.notSynchronized Bd
  have hret := Bd.returns
  have hml : c.maxLocals = 1 := hml0
  have hown : s.vm.findClass "java/lang/String" = some m.cls := findClass_of_methodNamed Bd.named
  have hnm := (name_of_methodNamed Bd.named Bd.method).1
  have X0 : Stand p l e RMrmVal s m #[(.int ch)] below meth c s₁ [] 0 0 := Stand.of_body Bd
  have e0 : s₁.heap = h0 := by rw [← hh, Bd.state]; rfl
  have N0 := Fr.nil Z.heap.size
  show OEnd p e below (GN s (QrmVal Z zc k_BOOL k_INT ch h0) RMrmVal.cells RMrmVal.slots) _
  refine OEnd.of (fun t k => castTop (ef_rmVal m ch) k) ?_
  obtain ⟨T18, X18, e18, st18⟩ := getS2 X0 hx hZ hown (host := "") (Or.inl (hw _ (List.mem_of_getElem? (i := 14) rfl))) Via.refl e0 (Sta.ext O0 S_CS) (g := (mkF m 0 #[.val (.int ch)] [])) rfl (hb hby d7_0)
  refine OEnd.of st18 ?_
  show OEnd p e below _ (T18.setTop (mkF m 3 #[.val (.int ch)] [(.int zc)]))
  refine OEnd.of (fun t k => XS.ifNo X18.here hx rfl (hb hby d7_3) rfl ((if0 _ _).trans (feq hzc).1) k) ?_
  show OEnd p e below _ (T18.setTop (mkF m 6 #[.val (.int ch)] []))
  refine OEnd.of (fun t k => XS.iloadN X18.here hx rfl (hb hby d7_6) rfl k) ?_
  show OEnd p e below _ (T18.setTop (mkF m 7 #[.val (.int ch)] [(.int ch)]))
  obtain ⟨_, _, ⟨T19, L19, k19, n19⟩, -, X19, ⟨Lc19, hQ19, l19, y19, z19⟩, st19⟩ := Jvm.LawKit.callS X18 hx (y := (⟨"java/lang/StringLatin1", "canEncode", "(C)Z"⟩ : MethodName)) hown (mvT hZ (hw _ (List.mem_of_getElem? (i := 39) rfl))) (mvT hZ (hw _ (List.mem_of_getElem? (i := 40) rfl))) (mvT hZ (hw _ (List.mem_of_getElem? (i := 41) rfl))) (mvT hZ (hw _ (List.mem_of_getElem? (i := 42) rfl))) (by decide) (backOf (W := 0) (rmCan l Z a0 hw zc k_BOOL k_INT S_CS hzc S_BOOL S_INT E_BOOL E_INT [] ch h0 O0 hch_ch) hZ (hw _ (List.mem_of_getElem? (i := 42) rfl)) (hw _ (List.mem_of_getElem? (i := 41) rfl)) (by decide) (by decide)) (g := (mkF m 7 #[.val (.int ch)] [(.int ch)])) rfl (by rw [hml]; rfl) (argsL := [(.int ch)]) (rest := []) (lenOf pd_28C29Z rfl) rfl (by show 2 * 0 + _ ≤ _; exact Nat.le_of_eq rfl) (hb hby d7_7) (fun _ _ => ⟨rfl, e18, (by decide : 0 + 0 ≤ _), (by decide : 0 + 0 ≤ _)⟩)
  dsimp only [Pt.U, Pt.locs, Pt.cells, Pt.slots] at X19 l19 y19 z19 st19 hQ19
  subst l19 y19 z19
  obtain ⟨rfl, Nq19, e19⟩ := hQ19
  have N20 := Fr.app N0 Nq19
  refine OEnd.of st19 ?_
  show OEnd p e below _ (T19.setTop (mkF m 10 #[.val (.int ch)] [(.int (1 : Int32))]))
  refine OEnd.of (fun t k => XS.ifNo X19.here hx rfl (hb hby d7_10) rfl ((if0 _ _).trans (feq (by decide : ¬ ((1 : Int32) = (0 : Int32)))).1) k) ?_
  show OEnd p e below _ (T19.setTop (mkF m 13 #[.val (.int ch)] []))
  obtain ⟨T21, h21, X21, e21, E21, A21, D21, -, st21⟩ := newO X19 hx hZ hown (hw _ (List.mem_of_getElem? (i := 43) rfl)) (hw _ (List.mem_of_getElem? (i := 2) rfl)) (hw _ (List.mem_of_getElem? (i := 3) rfl)) e19 (g := (mkF m 13 #[.val (.int ch)] [])) rfl (hb hby d7_13) (by decide) (by decide)
  obtain ⟨b21, g21⟩ : ∃ z, z = h0.size := ⟨_, rfl⟩
  rw [← g21] at A21 D21 st21
  refine OEnd.of st21 ?_
  have f21 : Z.heap.size ≤ b21 := Nat.le_trans O0.1 (Nat.le_of_eq g21.symm)
  have F22 : Fld Z h21 b21 "java/lang/String" "coder" "B" (.int (0 : Int32)) := D21 (Or.inr (hw _ (List.mem_of_getElem? (i := 27) rfl))) (ty := .byte) (by decide)
  have F23 : Fld Z h21 b21 "java/lang/String" "value" "[B" .null := D21 (Or.inr (hw _ (List.mem_of_getElem? (i := 29) rfl))) (ty := (.array .byte)) (by decide)
  show OEnd p e below _ (T21.setTop (mkF m 16 #[.val (.int ch)] [(.ref b21)]))
  refine OEnd.of (fun t k => XS.dup X21.here hx rfl (hb hby d7_16) rfl rfl k) ?_
  show OEnd p e below _ (T21.setTop (mkF m 17 #[.val (.int ch)] [(.ref b21), (.ref b21)]))
  refine OEnd.of (fun t k => XS.iloadN X21.here hx rfl (hb hby d7_17) rfl k) ?_
  show OEnd p e below _ (T21.setTop (mkF m 18 #[.val (.int ch)] [(.int ch), (.ref b21), (.ref b21)]))
  have K25 : Keep h0 h21 [] := ((Keep.refl h0 []).ext E21)
  have O26 : Ext Z.heap h21 := own_extKeep O0 K25 all0
  obtain ⟨_, _, ⟨T24, L24, k24, n24⟩, -, X24, ⟨Lc24, hQ24, l24, y24, z24⟩, st24⟩ := Jvm.LawKit.callS X21 hx (y := (⟨"java/lang/StringLatin1", "toBytes", "(C)[B"⟩ : MethodName)) hown (mvT hZ (hw _ (List.mem_of_getElem? (i := 44) rfl))) (mvT hZ (hw _ (List.mem_of_getElem? (i := 45) rfl))) (mvT hZ (hw _ (List.mem_of_getElem? (i := 41) rfl))) (mvT hZ (hw _ (List.mem_of_getElem? (i := 46) rfl))) (by decide) (backOf (W := 2) (rmToB l Z a0 hw zc k_BOOL k_INT S_CS hzc S_BOOL S_INT E_BOOL E_INT [] ch h21 O26 ) hZ (hw _ (List.mem_of_getElem? (i := 46) rfl)) (hw _ (List.mem_of_getElem? (i := 41) rfl)) (by decide) (by decide)) (g := (mkF m 18 #[.val (.int ch)] [(.int ch), (.ref b21), (.ref b21)])) rfl (by rw [hml]; rfl) (argsL := [(.int ch)]) (rest := [(.ref b21), (.ref b21)]) (lenOf pd_28C295bB rfl) rfl (by show 2 * 0 + _ ≤ _; exact Nat.le_of_eq rfl) (hb hby d7_18) (fun _ _ => ⟨rfl, e21, (by decide : 1 + 1 ≤ _), (by decide : 4 + 1 ≤ _)⟩)
  dsimp only [Pt.U, Pt.locs, Pt.cells, Pt.slots] at X24 l24 y24 z24 st24 hQ24
  subst l24 y24 z24
  obtain ⟨h24, e24⟩ : ∃ z, T24.heap = z := ⟨_, rfl⟩
  rw [e24] at hQ24
  obtain ⟨t_27, kb_28, rfl, Nq24, Kq24, A_29⟩ := hQ24
  have N30 := Fr.app N20 Nq24
  refine OEnd.of st24 ?_
  show OEnd p e below _ (T24.setTop (mkF m 21 #[.val (.int ch)] [(.ref t_27), (.ref b21), (.ref b21)]))
  refine OEnd.of (fun t k => XS.iconst X24.here hx rfl (hb hby d7_21) k) ?_
  show OEnd p e below _ (T24.setTop (mkF m 22 #[.val (.int ch)] [(.int (0 : Int32)), (.ref t_27), (.ref b21), (.ref b21)]))
  have K32 : Keep h21 h24 [] := ((Keep.refl h21 []).trans Kq24 all0)
  have O33 : Ext Z.heap h24 := own_extKeep O26 K32 all0
  obtain ⟨_, _, ⟨T31, L31, k31, n31⟩, -, X31, ⟨Lc31, hQ31, l31, y31, z31⟩, st31⟩ := X24.specialBack hx (y := (⟨"java/lang/String", "<init>", "([BB)V"⟩ : MethodName)) rfl hown (mvT hZ (hw _ (List.mem_of_getElem? (i := 47) rfl))) (mvT hZ (hw _ (List.mem_of_getElem? (i := 48) rfl))) (mvT hZ (hw _ (List.mem_of_getElem? (i := 49) rfl))) (by decide) (backOf (W := 1) (rmIBB l Z a0 hw zc k_BOOL k_INT S_CS hzc S_BOOL S_INT E_BOOL E_INT [] b21 t_27 h24 O33 (A21.keep K32) (F23.keep K32 nin0) (F22.keep K32 nin0) f21) hZ (hw _ (List.mem_of_getElem? (i := 49) rfl)) (hw _ (List.mem_of_getElem? (i := 3) rfl)) (by decide) (by decide)) (g := (mkF m 22 #[.val (.int ch)] [(.int (0 : Int32)), (.ref t_27), (.ref b21), (.ref b21)])) rfl (by rw [hml]; rfl) (Steps.refl _) (a := b21) (argsL := [(.ref t_27), (.int (0 : Int32))]) (rest := [(.ref b21)]) (lenOf pd_285bBB29V rfl) rfl (by show 2 * 0 + _ ≤ _; exact Nat.le_of_eq rfl) (hb hby d7_22) (fun _ _ => ⟨rfl, e24, (by decide : 2 + 0 ≤ _), (by decide : 5 + 0 ≤ _)⟩)
  dsimp only [Pt.U, Pt.locs, Pt.cells, Pt.slots] at X31 l31 y31 z31 st31 hQ31
  subst l31 y31 z31
  obtain ⟨h31, e31⟩ : ∃ z, T31.heap = z := ⟨_, rfl⟩
  rw [e31] at hQ31
  obtain ⟨rfl, Nq31, Kq31, E_34, V_35, C_36⟩ := hQ31
  have N37 := Fr.app N30 Nq31
  refine OEnd.of (fun t k => st31.trans k) ?_
  show OEnd p e below _ (T31.setTop (mkF m 25 #[.val (.int ch)] [(.ref b21)]))
  have K38 : Keep h24 h31 [b21] := ((Keep.refl h24 [b21]).trans Kq31 (allS (Or.inl (List.mem_of_getElem? (i := 0) rfl)) all0))
  have K39 : Keep h0 h31 [] := ((K25.trans Kq24 all0).trans Kq31 (allS (Or.inr (Nat.le_of_eq g21.symm)) all0))
  exact OEnd.retA X31 hx hlk e31 hret rfl rfl (hb hby d7_25) ⟨b21, rfl, N37, K39, ⟨E_34, C_36, ⟨t_27, kb_28, V_35, (A_29.keep K38 (ninS (Ne.symm (Exa.neArv (A21.keep K32) A_29 (hw _ (List.mem_of_getElem? (i := 2) rfl)))) nin0))⟩, (List.forall_mem_cons.mpr ⟨hch_ch, (fun _ q => nomatch q)⟩), Nat.le_of_ble_eq_true rfl⟩⟩ (by decide) (by decide)
theorem d12_0 : decode jdk_31_method_11_code 0 = .ok (.aload_n 0, 1) := by decide +kernel
theorem d12_1 : decode jdk_31_method_11_code 1 = .ok (.ifnonnull 12, 3) := by decide +kernel
theorem d12_13 : decode jdk_31_method_11_code 13 = .ok (.aload_n 0, 1) := by decide +kernel
theorem d12_14 : decode jdk_31_method_11_code 14 = .ok (.areturn, 1) := by decide +kernel
theorem pn_java_util_Objects : plainName "java/util/Objects" = true := by first | (simp [plainName, overriddenIn]; done) | decide +kernel
abbrev RMrmReq : Room := { frames := 0, cells := 0, slots := 0, locals := 0 }
theorem ef_rmReq (m : MethodId) (a1 : Addr) (a2 : Addr) : entryFrame m #[(.ref a1), (.ref a2)] 2 = mkF m 0 #[.val (.ref a1), .val (.ref a2)] [] := by first | (simp [entryFrame, mkF, argsToLocals, Value.category]; done) | rfl
def QrmReq (Z : State) (zc : Int32) (k_BOOL : Addr) (k_INT : Addr) (a1 : Addr) (a2 : Addr) (h0 : Heap) (v : Option Value) (h : Heap) (L : List Loc) : Prop := v = some (.ref a1) ∧ Fr Z.heap.size L ∧ h = h0
set_option maxRecDepth 65536 in
set_option maxHeartbeats 40000000 in
theorem rmReq (l : Launch) (Z : State) (a0 : Array Value) (hw : ∀ d ∈ tables_1, d.before a0 Z = true) (zc : Int32) (k_BOOL : Addr) (k_INT : Addr) (S_CS : Sta Z Z.heap "java/lang/String" "COMPACT_STRINGS" "Z" (.int zc)) (hzc : ¬ zc = 0) (S_BOOL : Sta Z Z.heap "com/example/thorough_topology/thoroughtopology/model/Sort" "BOOL" "Lcom/example/thorough_topology/thoroughtopology/model/Sort;" (.ref k_BOOL)) (S_INT : Sta Z Z.heap "com/example/thorough_topology/thoroughtopology/model/Sort" "INT" "Lcom/example/thorough_topology/thoroughtopology/model/Sort;" (.ref k_INT)) (E_BOOL : Exa Z Z.heap k_BOOL "com/example/thorough_topology/thoroughtopology/model/Sort") (E_INT : Exa Z Z.heap k_INT "com/example/thorough_topology/thoroughtopology/model/Sort") (ws : List Jvm.Cond) (a1 : Addr) (a2 : Addr) (h0 : Heap) (O0 : Ext Z.heap h0) :
    MetFree l (⟨"java/util/Objects", "requireNonNull", "(Ljava/lang/Object;Ljava/lang/String;)Ljava/lang/Object;"⟩ : MethodName) (head1 (Jvm.Cond.code (⟨"java/util/Objects", "requireNonNull", "(Ljava/lang/Object;Ljava/lang/String;)Ljava/lang/Object;"⟩ : MethodName) jdk_31_method_11_code 2 (some (.object "java/lang/Object")) :: ws) RMrmReq) (fun a U => a = #[(.ref a1), (.ref a2)] ∧ Z.Warmed39 U.vm ∧ U.heap = h0) (fun _ _ _ _ _ => True) (fun _ U o U' => ∃ v L, o = .returned v ∧ QrmReq Z zc k_BOOL k_INT a1 a2 h0 v U'.heap L ∧ FrameEnd U o U' L RMrmReq.cells RMrmReq.slots) := by
  refine MetFree.of_bodySF (plainFor_of_name pn_java_util_Objects) hisR ?_
  intro p e s m args below meth c s₁ Bd hml0 hP hK
  obtain ⟨rfl, hZ, hh⟩ := hP
  have hx := Bd.exec
  have hby := Bd.bytes
  have hlk : meth.locks = false := BodyLoose.notSynchronized Bd
  have hret := Bd.returns
  have hml : c.maxLocals = 2 := hml0
  have hown : s.vm.findClass "java/util/Objects" = some m.cls := findClass_of_methodNamed Bd.named
  have hnm := (name_of_methodNamed Bd.named Bd.method).1
  have X0 : Stand p l e RMrmReq s m #[(.ref a1), (.ref a2)] below meth c s₁ [] 0 0 := Stand.of_body Bd
  have e0 : s₁.heap = h0 := by rw [← hh, Bd.state]; rfl
  have N0 := Fr.nil Z.heap.size
  show OEnd p e below (GN s (QrmReq Z zc k_BOOL k_INT a1 a2 h0) RMrmReq.cells RMrmReq.slots) _
  refine OEnd.of (fun t k => castTop (ef_rmReq m a1 a2) k) ?_
  refine OEnd.of (fun t k => XS.aloadN X0.here hx rfl (hb hby d12_0) rfl rfl k) ?_
  show OEnd p e below _ (s₁.setTop (mkF m 1 #[.val (.ref a1), .val (.ref a2)] [(.ref a1)]))
  refine OEnd.of (fun t k => XS.ifnonnullYes X0.here hx rfl (pc0 := 1) (pc' := 13) rfl (hb hby d12_1) rfl (by decide) (by decide) k) ?_
  show OEnd p e below _ (s₁.setTop (mkF m 13 #[.val (.ref a1), .val (.ref a2)] []))
  refine OEnd.of (fun t k => XS.aloadN X0.here hx rfl (hb hby d12_13) rfl rfl k) ?_
  show OEnd p e below _ (s₁.setTop (mkF m 14 #[.val (.ref a1), .val (.ref a2)] [(.ref a1)]))
  exact OEnd.retA X0 hx hlk e0 hret rfl rfl (hb hby d12_14) ⟨rfl, N0, rfl⟩ (by decide) (by decide)
theorem pd_28Ljava2flang2fObject3bLjava2flang2fString3b29Ljava2flang2fObject3b : parseMethodDescriptor "(Ljava/lang/Object;Ljava/lang/String;)Ljava/lang/Object;" = some ⟨[(.object "java/lang/Object"), (.object "java/lang/String")], some (.object "java/lang/Object")⟩ := by decide +kernel
theorem d11_0 : decode prog_99_method_1_code 0 = .ok (.aload_n 0, 1) := by decide +kernel
theorem d11_1 : decode prog_99_method_1_code 1 = .ok (.invokespecial 1, 3) := by decide +kernel
theorem d11_4 : decode prog_99_method_1_code 4 = .ok (.aload_n 0, 1) := by decide +kernel
theorem d11_5 : decode prog_99_method_1_code 5 = .ok (.aload_n 1, 1) := by decide +kernel
theorem d11_6 : decode prog_99_method_1_code 6 = .ok (.ldc 7, 2) := by decide +kernel
theorem d11_8 : decode prog_99_method_1_code 8 = .ok (.invokestatic 9, 3) := by decide +kernel
theorem d11_11 : decode prog_99_method_1_code 11 = .ok (.checkcast 15, 3) := by decide +kernel
theorem d11_14 : decode prog_99_method_1_code 14 = .ok (.putfield 17, 3) := by decide +kernel
theorem d11_17 : decode prog_99_method_1_code 17 = .ok (.return_, 1) := by decide +kernel
theorem pn_com_example_thorough_topology_thoroughtopology_model_IndexSet : plainName "com/example/thorough_topology/thoroughtopology/model/IndexSet" = true := by first | (simp [plainName, overriddenIn]; done) | decide +kernel
abbrev RMrmIx : Room := { frames := 1, cells := 2, slots := 20, locals := 14 }
theorem ef_rmIx (m : MethodId) (a1 : Addr) (sa : Addr) : entryFrame m #[(.ref a1), (.ref sa)] 2 = mkF m 0 #[.val (.ref a1), .val (.ref sa)] [] := by first | (simp [entryFrame, mkF, argsToLocals, Value.category]; done) | rfl
def QrmIx (Z : State) (zc : Int32) (k_BOOL : Addr) (k_INT : Addr) (a1 : Addr) (sa : Addr) (h0 : Heap) (v : Option Value) (h : Heap) (L : List Loc) : Prop := v = none ∧ Fr Z.heap.size L ∧ Keep h0 h [a1] ∧ Exa Z h a1 "com/example/thorough_topology/thoroughtopology/model/IndexSet"
set_option maxRecDepth 65536 in
set_option maxHeartbeats 40000000 in
theorem rmIx (l : Launch) (Z : State) (a0 : Array Value) (hw : ∀ d ∈ tables_1, d.before a0 Z = true) (zc : Int32) (k_BOOL : Addr) (k_INT : Addr) (S_CS : Sta Z Z.heap "java/lang/String" "COMPACT_STRINGS" "Z" (.int zc)) (hzc : ¬ zc = 0) (S_BOOL : Sta Z Z.heap "com/example/thorough_topology/thoroughtopology/model/Sort" "BOOL" "Lcom/example/thorough_topology/thoroughtopology/model/Sort;" (.ref k_BOOL)) (S_INT : Sta Z Z.heap "com/example/thorough_topology/thoroughtopology/model/Sort" "INT" "Lcom/example/thorough_topology/thoroughtopology/model/Sort;" (.ref k_INT)) (E_BOOL : Exa Z Z.heap k_BOOL "com/example/thorough_topology/thoroughtopology/model/Sort") (E_INT : Exa Z Z.heap k_INT "com/example/thorough_topology/thoroughtopology/model/Sort") (hEL : EW Z a0 EL) (ws : List Jvm.Cond) (a1 : Addr) (sa : Addr) (h0 : Heap) (O0 : Ext Z.heap h0) (E1 : Exa Z h0 a1 "com/example/thorough_topology/thoroughtopology/model/IndexSet") (F1 : Fld Z h0 a1 "com/example/thorough_topology/thoroughtopology/model/IndexSet" "name" "Ljava/lang/String;" .null) (g1 : Z.heap.size ≤ a1) (Es : Exa Z h0 sa "java/lang/String") :
    MetFree l (⟨"com/example/thorough_topology/thoroughtopology/model/IndexSet", "<init>", "(Ljava/lang/String;)V"⟩ : MethodName) (head1 (Jvm.Cond.code (⟨"com/example/thorough_topology/thoroughtopology/model/IndexSet", "<init>", "(Ljava/lang/String;)V"⟩ : MethodName) prog_99_method_1_code 2 none :: ws) RMrmIx) (fun a U => a = #[(.ref a1), (.ref sa)] ∧ Z.Warmed39 U.vm ∧ U.heap = h0 ∧ CHv Z EL U.vm h0) (fun _ _ _ _ _ => True) (fun _ U o U' => ∃ v L, o = .returned v ∧ QrmIx Z zc k_BOOL k_INT a1 sa h0 v U'.heap L ∧ CHr Z EL U.vm U.heap U'.vm U'.heap ∧ ReturnedEndW U o U' L RMrmIx.cells RMrmIx.slots) := by
  refine MetFree.of_bodySF (plainFor_of_name pn_com_example_thorough_topology_thoroughtopology_model_IndexSet) hisR ?_
  intro p e s m args below meth c s₁ Bd hml0 hP hK
  obtain ⟨rfl, hZ, hh, hC0⟩ := hP
  have hx := Bd.exec
  have hby := Bd.bytes
  have hlk : meth.locks = false := BodyLoose.notSynchronized Bd
  have hret := Bd.returns
  have hml : c.maxLocals = 2 := hml0
  have hown : s.vm.findClass "com/example/thorough_topology/thoroughtopology/model/IndexSet" = some m.cls := findClass_of_methodNamed Bd.named
  have hnm := (name_of_methodNamed Bd.named Bd.method).1
  have X0 : Stand p l e RMrmIx (s.setVm s.vm) m #[(.ref a1), (.ref sa)] below meth c s₁ [] 0 0 := Stand.of_body Bd
  have e0 : s₁.heap = h0 := by rw [← hh, Bd.state]; rfl
  have N0 := Fr.nil Z.heap.size
  have hZ : Z.Warmed39 (s.setVm s.vm).vm := hZ
  have hS0 : s.Since s.vm h0.size := (State.WarmedH.refl s).since _
  have hk0 : h0.size ≤ h0.size := Nat.le_refl _
  have HR0 : CHr Z EL s.vm h0 s.vm h0 := CHr.refl hC0
  have hwS : ∀ d ∈ Bundle.stringAtoms, d.before a0 Z = true := fun d hd => hw d (own_strAtoms d hd)
  show OEnd p e below (GW s Z EL (QrmIx Z zc k_BOOL k_INT a1 sa h0) RMrmIx.cells RMrmIx.slots) _
  refine OEnd.of (fun t k => castTop (ef_rmIx m a1 sa) k) ?_
  refine OEnd.of (fun t k => XS.aloadN X0.here hx rfl (hb hby d11_0) rfl rfl k) ?_
  show OEnd p e below _ (s₁.setTop (mkF m 1 #[.val (.ref a1), .val (.ref sa)] [(.ref a1)]))
  obtain ⟨T40, X40, e40, st40⟩ := initO X0 hx hZ hown (hw _ (List.mem_of_getElem? (i := 53) rfl)) (hw _ (List.mem_of_getElem? (i := 12) rfl)) (hw _ (List.mem_of_getElem? (i := 13) rfl)) e0 (g := (mkF m 1 #[.val (.ref a1), .val (.ref sa)] [(.ref a1)])) rfl (by rw [hml]; rfl) rfl (hb hby d11_1) (by decide) (W := 0) (by show 2 * 0 + _ ≤ _; exact Nat.le_of_eq rfl) (by decide)
  refine OEnd.of st40 ?_
  show OEnd p e below _ (T40.setTop (mkF m 4 #[.val (.ref a1), .val (.ref sa)] []))
  refine OEnd.of (fun t k => XS.aloadN X40.here hx rfl (hb hby d11_4) rfl rfl k) ?_
  show OEnd p e below _ (T40.setTop (mkF m 5 #[.val (.ref a1), .val (.ref sa)] [(.ref a1)]))
  refine OEnd.of (fun t k => XS.aloadN X40.here hx rfl (hb hby d11_5) rfl rfl k) ?_
  show OEnd p e below _ (T40.setTop (mkF m 6 #[.val (.ref a1), .val (.ref sa)] [(.ref sa), (.ref a1)]))
  obtain ⟨ba41, T41, h41, k141, X41, e41, E41, S41, hk41, hZ41, hown41, C41, Lt41, st41⟩ := ldcOH X40 hx hZ hown (hw _ (List.mem_of_getElem? (i := 54) rfl)) hwS e40 hS0 hk0 hEL HR0.1 (g := (mkF m 6 #[.val (.ref a1), .val (.ref sa)] [(.ref sa), (.ref a1)])) rfl (hb hby d11_6) (n := 16) (by decide) (by decide) (by decide) (by decide)
  refine OEnd.of st41 ?_
  have CR42 : CHr Z EL s.vm h0 T41.vm h41 := C41
  have HR43 : CHr Z EL s.vm h0 T41.vm h41 := HR0.trans CR42
  show OEnd p e below _ (T41.setTop (mkF m 8 #[.val (.ref a1), .val (.ref sa)] [(.ref ba41), (.ref sa), (.ref a1)]))
  have K45 : Keep h0 h41 [] := ((Keep.refl h0 []).ext E41)
  have O46 : Ext Z.heap h41 := own_extKeep O0 K45 all0
  obtain ⟨_, _, ⟨T44, L44, k44, n44⟩, -, X44, ⟨Lc44, hQ44, l44, y44, z44⟩, st44⟩ := Jvm.LawKit.callS X41 hx (y := (⟨"java/util/Objects", "requireNonNull", "(Ljava/lang/Object;Ljava/lang/String;)Ljava/lang/Object;"⟩ : MethodName)) hown41 (mvT hZ41 (hw _ (List.mem_of_getElem? (i := 57) rfl))) (mvT hZ41 (hw _ (List.mem_of_getElem? (i := 58) rfl))) (mvT hZ41 (hw _ (List.mem_of_getElem? (i := 59) rfl))) (mvT hZ41 (hw _ (List.mem_of_getElem? (i := 60) rfl))) (by decide) (backOf (W := 1) (rmReq l Z a0 hw zc k_BOOL k_INT S_CS hzc S_BOOL S_INT E_BOOL E_INT [] sa ba41 h41 O46 ) hZ41 (hw _ (List.mem_of_getElem? (i := 60) rfl)) (hw _ (List.mem_of_getElem? (i := 59) rfl)) (by decide) (by decide)) (g := (mkF m 8 #[.val (.ref a1), .val (.ref sa)] [(.ref ba41), (.ref sa), (.ref a1)])) rfl (by rw [hml]; rfl) (argsL := [(.ref sa), (.ref ba41)]) (rest := [(.ref a1)]) (lenOf pd_28Ljava2flang2fObject3bLjava2flang2fString3b29Ljava2flang2fObject3b rfl) rfl (by show 2 * 0 + _ ≤ _; exact Nat.le_of_eq rfl) (hb hby d11_8) (fun _ _ => ⟨rfl, e41, (by decide : 2 + 0 ≤ _), (by decide : 20 + 0 ≤ _)⟩)
  dsimp only [Pt.U, Pt.locs, Pt.cells, Pt.slots] at X44 l44 y44 z44 st44 hQ44
  subst l44 y44 z44
  obtain ⟨rfl, Nq44, e44⟩ := hQ44
  have N47 := Fr.app N0 Nq44
  refine OEnd.of st44 ?_
  show OEnd p e below _ (T44.setTop (mkF m 11 #[.val (.ref a1), .val (.ref sa)] [(.ref sa), (.ref a1)]))
  obtain ⟨T48, X48, e48, st48⟩ := castY X44 hx hZ41 hown41 (hw _ (List.mem_of_getElem? (i := 61) rfl)) e44 (Ins.self (Es.keep K45)) (g := (mkF m 11 #[.val (.ref a1), .val (.ref sa)] [(.ref sa), (.ref a1)])) rfl rfl (hb hby d11_11)
  refine OEnd.of st48 ?_
  show OEnd p e below _ (T48.setTop (mkF m 14 #[.val (.ref a1), .val (.ref sa)] [(.ref sa), (.ref a1)]))
  obtain ⟨T49, h49, X49, e49, W49, st49⟩ := putF X48 hx hZ41 hown41 (host := "") (Or.inl (hw _ (List.mem_of_getElem? (i := 62) rfl))) Via.refl e48 (F1.keep K45 nin0) (E1.keep K45) (Or.inr ⟨(hw _ (List.mem_of_getElem? (i := 63) rfl)), rfl, hnm⟩) (hw _ (List.mem_of_getElem? (i := 34) rfl)) (ty := (.object "java/lang/String")) (by decide) rfl rfl (g := (mkF m 14 #[.val (.ref a1), .val (.ref sa)] [(.ref sa), (.ref a1)])) rfl rfl (hb hby d11_14)
  refine OEnd.of st49 ?_
  have F50 : Fld Z h49 a1 "com/example/thorough_topology/thoroughtopology/model/IndexSet" "name" "Ljava/lang/String;" (.ref sa) := Fld.same W49 (F1.keep K45 nin0)
  have E51 : Exa Z h49 a1 "com/example/thorough_topology/thoroughtopology/model/IndexSet" := (E1.keep K45).wr W49
  have N52 := Fr.snoc X49 N47 g1
  have CR53 : CHr Z EL T41.vm h41 T41.vm h49 := CHr.wr W49 (Safe.exa hZ41.alike (E1.keep K45) (by decide) (by decide)) HR43.1
  have HR54 : CHr Z EL s.vm h0 T41.vm h49 := HR43.trans CR53
  show OEnd p e below _ (T49.setTop (mkF m 17 #[.val (.ref a1), .val (.ref sa)] []))
  have K55 : Keep h0 h49 [a1] := (((Keep.refl h0 [a1]).ext E41).wr W49 (Or.inl (List.mem_of_getElem? (i := 0) rfl)))
  have K56 : Keep h41 h49 [a1] := ((Keep.refl h41 [a1]).wr W49 (Or.inl (List.mem_of_getElem? (i := 0) rfl)))
  exact OEnd.retVW X49 hx hlk e49 hh S41 (Nat.le_trans hk41 K56.1) hEL hZ41 HR54 hret (hb hby d11_17) ⟨rfl, N52, K55, E51⟩ (by decide) (by decide)
theorem d13_0 : decode prog_101_method_1_code 0 = .ok (.aload_n 0, 1) := by decide +kernel
theorem d13_1 : decode prog_101_method_1_code 1 = .ok (.invokespecial 1, 3) := by decide +kernel
theorem d13_4 : decode prog_101_method_1_code 4 = .ok (.aload_n 0, 1) := by decide +kernel
theorem d13_5 : decode prog_101_method_1_code 5 = .ok (.aload_n 1, 1) := by decide +kernel
theorem d13_6 : decode prog_101_method_1_code 6 = .ok (.ldc 7, 2) := by decide +kernel
theorem d13_8 : decode prog_101_method_1_code 8 = .ok (.invokestatic 9, 3) := by decide +kernel
theorem d13_11 : decode prog_101_method_1_code 11 = .ok (.checkcast 15, 3) := by decide +kernel
theorem d13_14 : decode prog_101_method_1_code 14 = .ok (.putfield 17, 3) := by decide +kernel
theorem d13_17 : decode prog_101_method_1_code 17 = .ok (.aload_n 0, 1) := by decide +kernel
theorem d13_18 : decode prog_101_method_1_code 18 = .ok (.aload_n 2, 1) := by decide +kernel
theorem d13_19 : decode prog_101_method_1_code 19 = .ok (.ldc 22, 2) := by decide +kernel
theorem d13_21 : decode prog_101_method_1_code 21 = .ok (.invokestatic 9, 3) := by decide +kernel
theorem d13_24 : decode prog_101_method_1_code 24 = .ok (.checkcast 24, 3) := by decide +kernel
theorem d13_27 : decode prog_101_method_1_code 27 = .ok (.putfield 26, 3) := by decide +kernel
theorem d13_30 : decode prog_101_method_1_code 30 = .ok (.aload_n 0, 1) := by decide +kernel
theorem d13_31 : decode prog_101_method_1_code 31 = .ok (.aload_n 3, 1) := by decide +kernel
theorem d13_32 : decode prog_101_method_1_code 32 = .ok (.putfield 29, 3) := by decide +kernel
theorem d13_35 : decode prog_101_method_1_code 35 = .ok (.return_, 1) := by decide +kernel
theorem pn_com_example_thorough_topology_thoroughtopology_model_Parameter : plainName "com/example/thorough_topology/thoroughtopology/model/Parameter" = true := by first | (simp [plainName, overriddenIn]; done) | decide +kernel
abbrev RMrmPm : Room := { frames := 1, cells := 4, slots := 40, locals := 14 }
theorem ef_rmPm (m : MethodId) (a1 : Addr) (sa : Addr) (so : Addr) (xv : Value) (h_xv : xv.isRef = true) : entryFrame m #[(.ref a1), (.ref sa), (.ref so), xv] 4 = mkF m 0 #[.val (.ref a1), .val (.ref sa), .val (.ref so), .val xv] [] := by rcases ref_cases h_xv with rfl | ⟨_, rfl⟩ <;> first | (simp [entryFrame, mkF, argsToLocals, Value.category]; done) | rfl
def QrmPm (Z : State) (zc : Int32) (k_BOOL : Addr) (k_INT : Addr) (a1 : Addr) (sa : Addr) (so : Addr) (xv : Value) (h0 : Heap) (v : Option Value) (h : Heap) (L : List Loc) : Prop := v = none ∧ Fr Z.heap.size L ∧ Keep h0 h [a1] ∧ Exa Z h a1 "com/example/thorough_topology/thoroughtopology/model/Parameter" ∧ Fld Z h a1 "com/example/thorough_topology/thoroughtopology/model/Parameter" "indexSet" "Lcom/example/thorough_topology/thoroughtopology/model/IndexSet;" xv
set_option maxRecDepth 65536 in
set_option maxHeartbeats 40000000 in
theorem rmPm (l : Launch) (Z : State) (a0 : Array Value) (hw : ∀ d ∈ tables_1, d.before a0 Z = true) (zc : Int32) (k_BOOL : Addr) (k_INT : Addr) (S_CS : Sta Z Z.heap "java/lang/String" "COMPACT_STRINGS" "Z" (.int zc)) (hzc : ¬ zc = 0) (S_BOOL : Sta Z Z.heap "com/example/thorough_topology/thoroughtopology/model/Sort" "BOOL" "Lcom/example/thorough_topology/thoroughtopology/model/Sort;" (.ref k_BOOL)) (S_INT : Sta Z Z.heap "com/example/thorough_topology/thoroughtopology/model/Sort" "INT" "Lcom/example/thorough_topology/thoroughtopology/model/Sort;" (.ref k_INT)) (E_BOOL : Exa Z Z.heap k_BOOL "com/example/thorough_topology/thoroughtopology/model/Sort") (E_INT : Exa Z Z.heap k_INT "com/example/thorough_topology/thoroughtopology/model/Sort") (hEL : EW Z a0 EL) (ws : List Jvm.Cond) (a1 : Addr) (sa : Addr) (so : Addr) (xv : Value) (h0 : Heap) (O0 : Ext Z.heap h0) (E1 : Exa Z h0 a1 "com/example/thorough_topology/thoroughtopology/model/Parameter") (F1 : Fld Z h0 a1 "com/example/thorough_topology/thoroughtopology/model/Parameter" "name" "Ljava/lang/String;" .null) (F2 : Fld Z h0 a1 "com/example/thorough_topology/thoroughtopology/model/Parameter" "sort" "Lcom/example/thorough_topology/thoroughtopology/model/Sort;" .null) (F3 : Fld Z h0 a1 "com/example/thorough_topology/thoroughtopology/model/Parameter" "indexSet" "Lcom/example/thorough_topology/thoroughtopology/model/IndexSet;" .null) (g1 : Z.heap.size ≤ a1) (Es : Exa Z h0 sa "java/lang/String") (Eo : Exa Z h0 so "com/example/thorough_topology/thoroughtopology/model/Sort") (h_xv : xv.isRef = true) :
    MetFree l (⟨"com/example/thorough_topology/thoroughtopology/model/Parameter", "<init>", "(Ljava/lang/String;Lcom/example/thorough_topology/thoroughtopology/model/Sort;Lcom/example/thorough_topology/thoroughtopology/model/IndexSet;)V"⟩ : MethodName) (head1 (Jvm.Cond.code (⟨"com/example/thorough_topology/thoroughtopology/model/Parameter", "<init>", "(Ljava/lang/String;Lcom/example/thorough_topology/thoroughtopology/model/Sort;Lcom/example/thorough_topology/thoroughtopology/model/IndexSet;)V"⟩ : MethodName) prog_101_method_1_code 4 none :: ws) RMrmPm) (fun a U => a = #[(.ref a1), (.ref sa), (.ref so), xv] ∧ Z.Warmed39 U.vm ∧ U.heap = h0 ∧ CHv Z EL U.vm h0) (fun _ _ _ _ _ => True) (fun _ U o U' => ∃ v L, o = .returned v ∧ QrmPm Z zc k_BOOL k_INT a1 sa so xv h0 v U'.heap L ∧ CHr Z EL U.vm U.heap U'.vm U'.heap ∧ ReturnedEndW U o U' L RMrmPm.cells RMrmPm.slots) := by
  refine MetFree.of_bodySF (plainFor_of_name pn_com_example_thorough_topology_thoroughtopology_model_Parameter) hisR ?_
  intro p e s m args below meth c s₁ Bd hml0 hP hK
  obtain ⟨rfl, hZ, hh, hC0⟩ := hP
  have hx := Bd.exec
  have hby := Bd.bytes
  have hlk : meth.locks = false := BodyLoose.notSynchronized Bd
  have hret := Bd.returns
  have hml : c.maxLocals = 4 := hml0
  have hown : s.vm.findClass "com/example/thorough_topology/thoroughtopology/model/Parameter" = some m.cls := findClass_of_methodNamed Bd.named
  have hnm := (name_of_methodNamed Bd.named Bd.method).1
  have X0 : Stand p l e RMrmPm (s.setVm s.vm) m #[(.ref a1), (.ref sa), (.ref so), xv] below meth c s₁ [] 0 0 := Stand.of_body Bd
  have e0 : s₁.heap = h0 := by rw [← hh, Bd.state]; rfl
  have N0 := Fr.nil Z.heap.size
  have hZ : Z.Warmed39 (s.setVm s.vm).vm := hZ
  have hS0 : s.Since s.vm h0.size := (State.WarmedH.refl s).since _
  have hk0 : h0.size ≤ h0.size := Nat.le_refl _
  have HR0 : CHr Z EL s.vm h0 s.vm h0 := CHr.refl hC0
  have hwS : ∀ d ∈ Bundle.stringAtoms, d.before a0 Z = true := fun d hd => hw d (own_strAtoms d hd)
  show OEnd p e below (GW s Z EL (QrmPm Z zc k_BOOL k_INT a1 sa so xv h0) RMrmPm.cells RMrmPm.slots) _
  refine OEnd.of (fun t k => castTop (ef_rmPm m a1 sa so xv h_xv) k) ?_
  refine OEnd.of (fun t k => XS.aloadN X0.here hx rfl (hb hby d13_0) rfl rfl k) ?_
  show OEnd p e below _ (s₁.setTop (mkF m 1 #[.val (.ref a1), .val (.ref sa), .val (.ref so), .val xv] [(.ref a1)]))
  obtain ⟨T57, X57, e57, st57⟩ := initO X0 hx hZ hown (hw _ (List.mem_of_getElem? (i := 70) rfl)) (hw _ (List.mem_of_getElem? (i := 12) rfl)) (hw _ (List.mem_of_getElem? (i := 13) rfl)) e0 (g := (mkF m 1 #[.val (.ref a1), .val (.ref sa), .val (.ref so), .val xv] [(.ref a1)])) rfl (by rw [hml]; rfl) rfl (hb hby d13_1) (by decide) (W := 0) (by show 2 * 0 + _ ≤ _; exact Nat.le_of_eq rfl) (by decide)
  refine OEnd.of st57 ?_
  show OEnd p e below _ (T57.setTop (mkF m 4 #[.val (.ref a1), .val (.ref sa), .val (.ref so), .val xv] []))
  refine OEnd.of (fun t k => XS.aloadN X57.here hx rfl (hb hby d13_4) rfl rfl k) ?_
  show OEnd p e below _ (T57.setTop (mkF m 5 #[.val (.ref a1), .val (.ref sa), .val (.ref so), .val xv] [(.ref a1)]))
  refine OEnd.of (fun t k => XS.aloadN X57.here hx rfl (hb hby d13_5) rfl rfl k) ?_
  show OEnd p e below _ (T57.setTop (mkF m 6 #[.val (.ref a1), .val (.ref sa), .val (.ref so), .val xv] [(.ref sa), (.ref a1)]))
  obtain ⟨ba58, T58, h58, k158, X58, e58, E58, S58, hk58, hZ58, hown58, C58, Lt58, st58⟩ := ldcOH X57 hx hZ hown (hw _ (List.mem_of_getElem? (i := 71) rfl)) hwS e57 hS0 hk0 hEL HR0.1 (g := (mkF m 6 #[.val (.ref a1), .val (.ref sa), .val (.ref so), .val xv] [(.ref sa), (.ref a1)])) rfl (hb hby d13_6) (n := 16) (by decide) (by decide) (by decide) (by decide)
  refine OEnd.of st58 ?_
  have CR59 : CHr Z EL s.vm h0 T58.vm h58 := C58
  have HR60 : CHr Z EL s.vm h0 T58.vm h58 := HR0.trans CR59
  show OEnd p e below _ (T58.setTop (mkF m 8 #[.val (.ref a1), .val (.ref sa), .val (.ref so), .val xv] [(.ref ba58), (.ref sa), (.ref a1)]))
  have K62 : Keep h0 h58 [] := ((Keep.refl h0 []).ext E58)
  have O63 : Ext Z.heap h58 := own_extKeep O0 K62 all0
  obtain ⟨_, _, ⟨T61, L61, k61, n61⟩, -, X61, ⟨Lc61, hQ61, l61, y61, z61⟩, st61⟩ := Jvm.LawKit.callS X58 hx (y := (⟨"java/util/Objects", "requireNonNull", "(Ljava/lang/Object;Ljava/lang/String;)Ljava/lang/Object;"⟩ : MethodName)) hown58 (mvT hZ58 (hw _ (List.mem_of_getElem? (i := 72) rfl))) (mvT hZ58 (hw _ (List.mem_of_getElem? (i := 58) rfl))) (mvT hZ58 (hw _ (List.mem_of_getElem? (i := 59) rfl))) (mvT hZ58 (hw _ (List.mem_of_getElem? (i := 60) rfl))) (by decide) (backOf (W := 1) (rmReq l Z a0 hw zc k_BOOL k_INT S_CS hzc S_BOOL S_INT E_BOOL E_INT [] sa ba58 h58 O63 ) hZ58 (hw _ (List.mem_of_getElem? (i := 60) rfl)) (hw _ (List.mem_of_getElem? (i := 59) rfl)) (by decide) (by decide)) (g := (mkF m 8 #[.val (.ref a1), .val (.ref sa), .val (.ref so), .val xv] [(.ref ba58), (.ref sa), (.ref a1)])) rfl (by rw [hml]; rfl) (argsL := [(.ref sa), (.ref ba58)]) (rest := [(.ref a1)]) (lenOf pd_28Ljava2flang2fObject3bLjava2flang2fString3b29Ljava2flang2fObject3b rfl) rfl (by show 2 * 0 + _ ≤ _; exact Nat.le_of_eq rfl) (hb hby d13_8) (fun _ _ => ⟨rfl, e58, (by decide : 2 + 0 ≤ _), (by decide : 20 + 0 ≤ _)⟩)
  dsimp only [Pt.U, Pt.locs, Pt.cells, Pt.slots] at X61 l61 y61 z61 st61 hQ61
  subst l61 y61 z61
  obtain ⟨rfl, Nq61, e61⟩ := hQ61
  have N64 := Fr.app N0 Nq61
  refine OEnd.of st61 ?_
  show OEnd p e below _ (T61.setTop (mkF m 11 #[.val (.ref a1), .val (.ref sa), .val (.ref so), .val xv] [(.ref sa), (.ref a1)]))
  obtain ⟨T65, X65, e65, st65⟩ := castY X61 hx hZ58 hown58 (hw _ (List.mem_of_getElem? (i := 73) rfl)) e61 (Ins.self (Es.keep K62)) (g := (mkF m 11 #[.val (.ref a1), .val (.ref sa), .val (.ref so), .val xv] [(.ref sa), (.ref a1)])) rfl rfl (hb hby d13_11)
  refine OEnd.of st65 ?_
  show OEnd p e below _ (T65.setTop (mkF m 14 #[.val (.ref a1), .val (.ref sa), .val (.ref so), .val xv] [(.ref sa), (.ref a1)]))
  obtain ⟨T66, h66, X66, e66, W66, st66⟩ := putF X65 hx hZ58 hown58 (host := "") (Or.inl (hw _ (List.mem_of_getElem? (i := 74) rfl))) Via.refl e65 (F1.keep K62 nin0) (E1.keep K62) (Or.inr ⟨(hw _ (List.mem_of_getElem? (i := 75) rfl)), rfl, hnm⟩) (hw _ (List.mem_of_getElem? (i := 65) rfl)) (ty := (.object "java/lang/String")) (by decide) rfl rfl (g := (mkF m 14 #[.val (.ref a1), .val (.ref sa), .val (.ref so), .val xv] [(.ref sa), (.ref a1)])) rfl rfl (hb hby d13_14)
  refine OEnd.of st66 ?_
  have F67 : Fld Z h66 a1 "com/example/thorough_topology/thoroughtopology/model/Parameter" "name" "Ljava/lang/String;" (.ref sa) := Fld.same W66 (F1.keep K62 nin0)
  have E68 : Exa Z h66 a1 "com/example/thorough_topology/thoroughtopology/model/Parameter" := (E1.keep K62).wr W66
  have F69 : Fld Z h66 a1 "com/example/thorough_topology/thoroughtopology/model/Parameter" "sort" "Lcom/example/thorough_topology/thoroughtopology/model/Sort;" .null := (F2.keep K62 nin0).other W66 (Or.inr (slot_ne (Or.inr (hw _ (List.mem_of_getElem? (i := 80) rfl))) (Or.inr (hw _ (List.mem_of_getElem? (i := 75) rfl))) (by decide) (t := (.object "com/example/thorough_topology/thoroughtopology/model/Sort")) (t' := (.object "java/lang/String")) (by decide) (by decide)))
  have F70 : Fld Z h66 a1 "com/example/thorough_topology/thoroughtopology/model/Parameter" "indexSet" "Lcom/example/thorough_topology/thoroughtopology/model/IndexSet;" .null := (F3.keep K62 nin0).other W66 (Or.inr (slot_ne (Or.inr (hw _ (List.mem_of_getElem? (i := 82) rfl))) (Or.inr (hw _ (List.mem_of_getElem? (i := 75) rfl))) (by decide) (t := (.object "com/example/thorough_topology/thoroughtopology/model/IndexSet")) (t' := (.object "java/lang/String")) (by decide) (by decide)))
  have N71 := Fr.snoc X66 N64 g1
  have CR72 : CHr Z EL T58.vm h58 T58.vm h66 := CHr.wr W66 (Safe.exa hZ58.alike (E1.keep K62) (by decide) (by decide)) HR60.1
  have HR73 : CHr Z EL s.vm h0 T58.vm h66 := HR60.trans CR72
  show OEnd p e below _ (T66.setTop (mkF m 17 #[.val (.ref a1), .val (.ref sa), .val (.ref so), .val xv] []))
  refine OEnd.of (fun t k => XS.aloadN X66.here hx rfl (hb hby d13_17) rfl rfl k) ?_
  show OEnd p e below _ (T66.setTop (mkF m 18 #[.val (.ref a1), .val (.ref sa), .val (.ref so), .val xv] [(.ref a1)]))
  refine OEnd.of (fun t k => XS.aloadN X66.here hx rfl (hb hby d13_18) rfl rfl k) ?_
  show OEnd p e below _ (T66.setTop (mkF m 19 #[.val (.ref a1), .val (.ref sa), .val (.ref so), .val xv] [(.ref so), (.ref a1)]))
  have K75 : Keep h58 h66 [a1] := ((Keep.refl h58 [a1]).wr W66 (Or.inl (List.mem_of_getElem? (i := 0) rfl)))
  obtain ⟨ba74, T74, h74, k174, X74, e74, E74, S74, hk74, hZ74, hown74, C74, Lt74, st74⟩ := ldcOH X66 hx hZ58 hown58 (hw _ (List.mem_of_getElem? (i := 76) rfl)) hwS e66 S58 (Nat.le_trans hk58 K75.1) hEL HR73.1 (g := (mkF m 19 #[.val (.ref a1), .val (.ref sa), .val (.ref so), .val xv] [(.ref so), (.ref a1)])) rfl (hb hby d13_19) (n := 16) (by decide) (by decide) (by decide) (by decide)
  refine OEnd.of st74 ?_
  have CR76 : CHr Z EL T58.vm h66 T74.vm h74 := C74
  have HR77 : CHr Z EL s.vm h0 T74.vm h74 := HR73.trans CR76
  show OEnd p e below _ (T74.setTop (mkF m 21 #[.val (.ref a1), .val (.ref sa), .val (.ref so), .val xv] [(.ref ba74), (.ref so), (.ref a1)]))
  have K79 : Keep h58 h74 [a1] := (K75.ext E74)
  have O80 : Ext Z.heap h74 := own_extKeep O63 K79 (allS g1 all0)
  obtain ⟨_, _, ⟨T78, L78, k78, n78⟩, -, X78, ⟨Lc78, hQ78, l78, y78, z78⟩, st78⟩ := Jvm.LawKit.callS X74 hx (y := (⟨"java/util/Objects", "requireNonNull", "(Ljava/lang/Object;Ljava/lang/String;)Ljava/lang/Object;"⟩ : MethodName)) hown74 (mvT hZ74 (hw _ (List.mem_of_getElem? (i := 72) rfl))) (mvT hZ74 (hw _ (List.mem_of_getElem? (i := 58) rfl))) (mvT hZ74 (hw _ (List.mem_of_getElem? (i := 59) rfl))) (mvT hZ74 (hw _ (List.mem_of_getElem? (i := 60) rfl))) (by decide) (backOf (W := 1) (rmReq l Z a0 hw zc k_BOOL k_INT S_CS hzc S_BOOL S_INT E_BOOL E_INT [] so ba74 h74 O80 ) hZ74 (hw _ (List.mem_of_getElem? (i := 60) rfl)) (hw _ (List.mem_of_getElem? (i := 59) rfl)) (by decide) (by decide)) (g := (mkF m 21 #[.val (.ref a1), .val (.ref sa), .val (.ref so), .val xv] [(.ref ba74), (.ref so), (.ref a1)])) rfl (by rw [hml]; rfl) (argsL := [(.ref so), (.ref ba74)]) (rest := [(.ref a1)]) (lenOf pd_28Ljava2flang2fObject3bLjava2flang2fString3b29Ljava2flang2fObject3b rfl) rfl (by show 2 * 0 + _ ≤ _; exact Nat.le_of_eq rfl) (hb hby d13_21) (fun _ _ => ⟨rfl, e74, (by decide : 4 + 0 ≤ _), (by decide : 40 + 0 ≤ _)⟩)
  dsimp only [Pt.U, Pt.locs, Pt.cells, Pt.slots] at X78 l78 y78 z78 st78 hQ78
  subst l78 y78 z78
  obtain ⟨rfl, Nq78, e78⟩ := hQ78
  have N81 := Fr.app N71 Nq78
  refine OEnd.of st78 ?_
  show OEnd p e below _ (T78.setTop (mkF m 24 #[.val (.ref a1), .val (.ref sa), .val (.ref so), .val xv] [(.ref so), (.ref a1)]))
  have K82 : Keep h0 h74 [a1] := ((((Keep.refl h0 [a1]).ext E58).wr W66 (Or.inl (List.mem_of_getElem? (i := 0) rfl))).ext E74)
  obtain ⟨T83, X83, e83, st83⟩ := castY X78 hx hZ74 hown74 (hw _ (List.mem_of_getElem? (i := 77) rfl)) e78 (Ins.self (Eo.keep K82)) (g := (mkF m 24 #[.val (.ref a1), .val (.ref sa), .val (.ref so), .val xv] [(.ref so), (.ref a1)])) rfl rfl (hb hby d13_24)
  refine OEnd.of st83 ?_
  show OEnd p e below _ (T83.setTop (mkF m 27 #[.val (.ref a1), .val (.ref sa), .val (.ref so), .val xv] [(.ref so), (.ref a1)]))
  have K84 : Keep h66 h74 [] := ((Keep.refl h66 []).ext E74)
  obtain ⟨T85, h85, X85, e85, W85, st85⟩ := putF X83 hx hZ74 hown74 (host := "") (Or.inl (hw _ (List.mem_of_getElem? (i := 79) rfl))) Via.refl e83 (F69.keep K84 nin0) (E68.keep K84) (Or.inr ⟨(hw _ (List.mem_of_getElem? (i := 80) rfl)), rfl, hnm⟩) (hw _ (List.mem_of_getElem? (i := 65) rfl)) (ty := (.object "com/example/thorough_topology/thoroughtopology/model/Sort")) (by decide) rfl rfl (g := (mkF m 27 #[.val (.ref a1), .val (.ref sa), .val (.ref so), .val xv] [(.ref so), (.ref a1)])) rfl rfl (hb hby d13_27)
  refine OEnd.of st85 ?_
  have F86 : Fld Z h85 a1 "com/example/thorough_topology/thoroughtopology/model/Parameter" "sort" "Lcom/example/thorough_topology/thoroughtopology/model/Sort;" (.ref so) := Fld.same W85 (F69.keep K84 nin0)
  have E87 : Exa Z h85 a1 "com/example/thorough_topology/thoroughtopology/model/Parameter" := (E68.keep K84).wr W85
  have F88 : Fld Z h85 a1 "com/example/thorough_topology/thoroughtopology/model/Parameter" "indexSet" "Lcom/example/thorough_topology/thoroughtopology/model/IndexSet;" .null := (F70.keep K84 nin0).other W85 (Or.inr (slot_ne (Or.inr (hw _ (List.mem_of_getElem? (i := 82) rfl))) (Or.inr (hw _ (List.mem_of_getElem? (i := 80) rfl))) (by decide) (t := (.object "com/example/thorough_topology/thoroughtopology/model/IndexSet")) (t' := (.object "com/example/thorough_topology/thoroughtopology/model/Sort")) (by decide) (by decide)))
  have F89 : Fld Z h85 a1 "com/example/thorough_topology/thoroughtopology/model/Parameter" "name" "Ljava/lang/String;" (.ref sa) := (F67.keep K84 nin0).other W85 (Or.inr (slot_ne (Or.inr (hw _ (List.mem_of_getElem? (i := 75) rfl))) (Or.inr (hw _ (List.mem_of_getElem? (i := 80) rfl))) (by decide) (t := (.object "java/lang/String")) (t' := (.object "com/example/thorough_topology/thoroughtopology/model/Sort")) (by decide) (by decide)))
  have N90 := Fr.snoc X85 N81 g1
  have CR91 : CHr Z EL T74.vm h74 T74.vm h85 := CHr.wr W85 (Safe.exa hZ74.alike (E68.keep K84) (by decide) (by decide)) HR77.1
  have HR92 : CHr Z EL s.vm h0 T74.vm h85 := HR77.trans CR91
  show OEnd p e below _ (T85.setTop (mkF m 30 #[.val (.ref a1), .val (.ref sa), .val (.ref so), .val xv] []))
  refine OEnd.of (fun t k => XS.aloadN X85.here hx rfl (hb hby d13_30) rfl rfl k) ?_
  show OEnd p e below _ (T85.setTop (mkF m 31 #[.val (.ref a1), .val (.ref sa), .val (.ref so), .val xv] [(.ref a1)]))
  refine OEnd.of (fun t k => XS.aloadN X85.here hx rfl (hb hby d13_31) rfl h_xv k) ?_
  show OEnd p e below _ (T85.setTop (mkF m 32 #[.val (.ref a1), .val (.ref sa), .val (.ref so), .val xv] [xv, (.ref a1)]))
  obtain ⟨T93, h93, X93, e93, W93, st93⟩ := putF X85 hx hZ74 hown74 (host := "") (Or.inl (hw _ (List.mem_of_getElem? (i := 81) rfl))) Via.refl e85 F88 E87 (Or.inr ⟨(hw _ (List.mem_of_getElem? (i := 82) rfl)), rfl, hnm⟩) (hw _ (List.mem_of_getElem? (i := 65) rfl)) (ty := (.object "com/example/thorough_topology/thoroughtopology/model/IndexSet")) (by decide) rfl (own_fitsRef h_xv rfl) (g := (mkF m 32 #[.val (.ref a1), .val (.ref sa), .val (.ref so), .val xv] [xv, (.ref a1)])) rfl rfl (hb hby d13_32)
  refine OEnd.of st93 ?_
  have F94 : Fld Z h93 a1 "com/example/thorough_topology/thoroughtopology/model/Parameter" "indexSet" "Lcom/example/thorough_topology/thoroughtopology/model/IndexSet;" xv := Fld.same W93 F88
  have E95 : Exa Z h93 a1 "com/example/thorough_topology/thoroughtopology/model/Parameter" := E87.wr W93
  have F96 : Fld Z h93 a1 "com/example/thorough_topology/thoroughtopology/model/Parameter" "name" "Ljava/lang/String;" (.ref sa) := F89.other W93 (Or.inr (slot_ne (Or.inr (hw _ (List.mem_of_getElem? (i := 75) rfl))) (Or.inr (hw _ (List.mem_of_getElem? (i := 82) rfl))) (by decide) (t := (.object "java/lang/String")) (t' := (.object "com/example/thorough_topology/thoroughtopology/model/IndexSet")) (by decide) (by decide)))
  have F97 : Fld Z h93 a1 "com/example/thorough_topology/thoroughtopology/model/Parameter" "sort" "Lcom/example/thorough_topology/thoroughtopology/model/Sort;" (.ref so) := F86.other W93 (Or.inr (slot_ne (Or.inr (hw _ (List.mem_of_getElem? (i := 80) rfl))) (Or.inr (hw _ (List.mem_of_getElem? (i := 82) rfl))) (by decide) (t := (.object "com/example/thorough_topology/thoroughtopology/model/Sort")) (t' := (.object "com/example/thorough_topology/thoroughtopology/model/IndexSet")) (by decide) (by decide)))
  have N98 := Fr.snoc X93 N90 g1
  have CR99 : CHr Z EL T74.vm h85 T74.vm h93 := CHr.wr W93 (Safe.exa hZ74.alike E87 (by decide) (by decide)) HR92.1
  have HR100 : CHr Z EL s.vm h0 T74.vm h93 := HR92.trans CR99
  show OEnd p e below _ (T93.setTop (mkF m 35 #[.val (.ref a1), .val (.ref sa), .val (.ref so), .val xv] []))
  have K101 : Keep h0 h93 [a1] := ((K82.wr W85 (Or.inl (List.mem_of_getElem? (i := 0) rfl))).wr W93 (Or.inl (List.mem_of_getElem? (i := 0) rfl)))
  have K102 : Keep h74 h93 [a1] := (((Keep.refl h74 [a1]).wr W85 (Or.inl (List.mem_of_getElem? (i := 0) rfl))).wr W93 (Or.inl (List.mem_of_getElem? (i := 0) rfl)))
  exact OEnd.retVW X93 hx hlk e93 hh S74 (Nat.le_trans hk74 K102.1) hEL hZ74 HR100 hret (hb hby d13_35) ⟨rfl, N98, K101, E95, F94⟩ (by decide) (by decide)
theorem d14_0 : decode prog_101_method_5_code 0 = .ok (.aload_n 0, 1) := by decide +kernel
theorem d14_1 : decode prog_101_method_5_code 1 = .ok (.getfield 29, 3) := by decide +kernel
theorem d14_4 : decode prog_101_method_5_code 4 = .ok (.ifnull 7, 3) := by decide +kernel
theorem d14_7 : decode prog_101_method_5_code 7 = .ok (.iconst 1, 1) := by decide +kernel
theorem d14_8 : decode prog_101_method_5_code 8 = .ok (.goto 4, 3) := by decide +kernel
theorem d14_11 : decode prog_101_method_5_code 11 = .ok (.iconst 0, 1) := by decide +kernel
theorem d14_12 : decode prog_101_method_5_code 12 = .ok (.ireturn, 1) := by decide +kernel
abbrev RMrmII : Room := { frames := 0, cells := 0, slots := 0, locals := 0 }
theorem ef_rmII (m : MethodId) (a1 : Addr) : entryFrame m #[(.ref a1)] 1 = mkF m 0 #[.val (.ref a1)] [] := by first | (simp [entryFrame, mkF, argsToLocals, Value.category]; done) | rfl
def QrmII (Z : State) (zc : Int32) (k_BOOL : Addr) (k_INT : Addr) (a1 : Addr) (xv : Value) (h0 : Heap) (v : Option Value) (h : Heap) (L : List Loc) : Prop := ∃ (bb : Int32), v = some (.int bb) ∧ Fr Z.heap.size L ∧ h = h0 ∧ ((xv = Value.null ∧ bb = 0) ∨ (xv ≠ Value.null ∧ bb = 1))
set_option maxRecDepth 65536 in
set_option maxHeartbeats 40000000 in
theorem rmII (l : Launch) (Z : State) (a0 : Array Value) (hw : ∀ d ∈ tables_1, d.before a0 Z = true) (zc : Int32) (k_BOOL : Addr) (k_INT : Addr) (S_CS : Sta Z Z.heap "java/lang/String" "COMPACT_STRINGS" "Z" (.int zc)) (hzc : ¬ zc = 0) (S_BOOL : Sta Z Z.heap "com/example/thorough_topology/thoroughtopology/model/Sort" "BOOL" "Lcom/example/thorough_topology/thoroughtopology/model/Sort;" (.ref k_BOOL)) (S_INT : Sta Z Z.heap "com/example/thorough_topology/thoroughtopology/model/Sort" "INT" "Lcom/example/thorough_topology/thoroughtopology/model/Sort;" (.ref k_INT)) (E_BOOL : Exa Z Z.heap k_BOOL "com/example/thorough_topology/thoroughtopology/model/Sort") (E_INT : Exa Z Z.heap k_INT "com/example/thorough_topology/thoroughtopology/model/Sort") (ws : List Jvm.Cond) (a1 : Addr) (xv : Value) (h0 : Heap) (O0 : Ext Z.heap h0) (Fx : Fld Z h0 a1 "com/example/thorough_topology/thoroughtopology/model/Parameter" "indexSet" "Lcom/example/thorough_topology/thoroughtopology/model/IndexSet;" xv) (h_xv : xv.isRef = true) :
    MetFree l (⟨"com/example/thorough_topology/thoroughtopology/model/Parameter", "isIndexed", "()Z"⟩ : MethodName) (head1 (Jvm.Cond.code (⟨"com/example/thorough_topology/thoroughtopology/model/Parameter", "isIndexed", "()Z"⟩ : MethodName) prog_101_method_5_code 1 (some .boolean) :: ws) RMrmII) (fun a U => a = #[(.ref a1)] ∧ Z.Warmed39 U.vm ∧ U.heap = h0) (fun _ _ _ _ _ => True) (fun _ U o U' => ∃ v L, o = .returned v ∧ QrmII Z zc k_BOOL k_INT a1 xv h0 v U'.heap L ∧ FrameEnd U o U' L RMrmII.cells RMrmII.slots) := by
  refine MetFree.of_bodySF (plainFor_of_name pn_com_example_thorough_topology_thoroughtopology_model_Parameter) hisR ?_
  intro p e s m args below meth c s₁ Bd hml0 hP hK
  obtain ⟨rfl, hZ, hh⟩ := hP
  have hx := Bd.exec
  have hby := Bd.bytes
  have hlk : meth.locks = false := BodyLoose.notSynchronized Bd
  have hret := Bd.returns
  have hml : c.maxLocals = 1 := hml0
  have hown : s.vm.findClass "com/example/thorough_topology/thoroughtopology/model/Parameter" = some m.cls := findClass_of_methodNamed Bd.named
  have hnm := (name_of_methodNamed Bd.named Bd.method).1
  have X0 : Stand p l e RMrmII s m #[(.ref a1)] below meth c s₁ [] 0 0 := Stand.of_body Bd
  have e0 : s₁.heap = h0 := by rw [← hh, Bd.state]; rfl
  have N0 := Fr.nil Z.heap.size
  show OEnd p e below (GN s (QrmII Z zc k_BOOL k_INT a1 xv h0) RMrmII.cells RMrmII.slots) _
  refine OEnd.of (fun t k => castTop (ef_rmII m a1) k) ?_
  refine OEnd.of (fun t k => XS.aloadN X0.here hx rfl (hb hby d14_0) rfl rfl k) ?_
  show OEnd p e below _ (s₁.setTop (mkF m 1 #[.val (.ref a1)] [(.ref a1)]))
  obtain ⟨T103, X103, e103, st103⟩ := getF X0 hx hZ hown (host := "") (Or.inl (hw _ (List.mem_of_getElem? (i := 81) rfl))) Via.refl e0 Fx (g := (mkF m 1 #[.val (.ref a1)] [(.ref a1)])) rfl rfl (hb hby d14_1)
  refine OEnd.of st103 ?_
  show OEnd p e below _ (T103.setTop (mkF m 4 #[.val (.ref a1)] [xv]))
  rcases ref_cases h_xv with hnav104 | ⟨av104, hnav104⟩
  · subst hnav104
    refine OEnd.of (fun t k => XS.ifnullYes X103.here hx rfl (pc0 := 4) (pc' := 11) rfl (hb hby d14_4) rfl (by decide) (by decide) k) ?_
    show OEnd p e below _ (T103.setTop (mkF m 11 #[.val (.ref a1)] []))
    refine OEnd.of (fun t k => XS.iconst X103.here hx rfl (hb hby d14_11) k) ?_
    show OEnd p e below _ (T103.setTop (mkF m 12 #[.val (.ref a1)] [(.int (0 : Int32))]))
    exact OEnd.retN X103 hx hlk e103 (t := .boolean) hret (by simp) (hb hby d14_12) ⟨(0 : Int32), rfl, N0, rfl, (Or.inl ⟨rfl, rfl⟩)⟩ (by decide) (by decide)
  · subst hnav104
    refine OEnd.of (fun t k => XS.ifnullNo X103.here hx rfl (hb hby d14_4) rfl k) ?_
    show OEnd p e below _ (T103.setTop (mkF m 7 #[.val (.ref a1)] []))
    refine OEnd.of (fun t k => XS.iconst X103.here hx rfl (hb hby d14_7) k) ?_
    show OEnd p e below _ (T103.setTop (mkF m 8 #[.val (.ref a1)] [(.int (1 : Int32))]))
    refine OEnd.of (fun t k => XS.goto X103.here hx rfl (pc0 := 8) (pc' := 12) rfl (hb hby d14_8) (by decide) (by decide) k) ?_
    show OEnd p e below _ (T103.setTop (mkF m 12 #[.val (.ref a1)] [(.int (1 : Int32))]))
    exact OEnd.retN X103 hx hlk e103 (t := .boolean) hret (by simp) (hb hby d14_12) ⟨(1 : Int32), rfl, N0, rfl, (Or.inr ⟨nofun, rfl⟩)⟩ (by decide) (by decide)
theorem d15_0 : decode prog_101_method_4_code 0 = .ok (.aload_n 0, 1) := by decide +kernel
theorem d15_1 : decode prog_101_method_4_code 1 = .ok (.getfield 29, 3) := by decide +kernel
theorem d15_4 : decode prog_101_method_4_code 4 = .ok (.areturn, 1) := by decide +kernel
abbrev RMrmIxs : Room := { frames := 0, cells := 0, slots := 0, locals := 0 }
theorem ef_rmIxs (m : MethodId) (a1 : Addr) : entryFrame m #[(.ref a1)] 1 = mkF m 0 #[.val (.ref a1)] [] := by first | (simp [entryFrame, mkF, argsToLocals, Value.category]; done) | rfl
def QrmIxs (Z : State) (zc : Int32) (k_BOOL : Addr) (k_INT : Addr) (a1 : Addr) (xv : Value) (h0 : Heap) (v : Option Value) (h : Heap) (L : List Loc) : Prop := v = some xv ∧ Fr Z.heap.size L ∧ h = h0
set_option maxRecDepth 65536 in
set_option maxHeartbeats 40000000 in
theorem rmIxs (l : Launch) (Z : State) (a0 : Array Value) (hw : ∀ d ∈ tables_1, d.before a0 Z = true) (zc : Int32) (k_BOOL : Addr) (k_INT : Addr) (S_CS : Sta Z Z.heap "java/lang/String" "COMPACT_STRINGS" "Z" (.int zc)) (hzc : ¬ zc = 0) (S_BOOL : Sta Z Z.heap "com/example/thorough_topology/thoroughtopology/model/Sort" "BOOL" "Lcom/example/thorough_topology/thoroughtopology/model/Sort;" (.ref k_BOOL)) (S_INT : Sta Z Z.heap "com/example/thorough_topology/thoroughtopology/model/Sort" "INT" "Lcom/example/thorough_topology/thoroughtopology/model/Sort;" (.ref k_INT)) (E_BOOL : Exa Z Z.heap k_BOOL "com/example/thorough_topology/thoroughtopology/model/Sort") (E_INT : Exa Z Z.heap k_INT "com/example/thorough_topology/thoroughtopology/model/Sort") (ws : List Jvm.Cond) (a1 : Addr) (xv : Value) (h0 : Heap) (O0 : Ext Z.heap h0) (Fx : Fld Z h0 a1 "com/example/thorough_topology/thoroughtopology/model/Parameter" "indexSet" "Lcom/example/thorough_topology/thoroughtopology/model/IndexSet;" xv) (h_xv : xv.isRef = true) :
    MetFree l (⟨"com/example/thorough_topology/thoroughtopology/model/Parameter", "indexSet", "()Lcom/example/thorough_topology/thoroughtopology/model/IndexSet;"⟩ : MethodName) (head1 (Jvm.Cond.code (⟨"com/example/thorough_topology/thoroughtopology/model/Parameter", "indexSet", "()Lcom/example/thorough_topology/thoroughtopology/model/IndexSet;"⟩ : MethodName) prog_101_method_4_code 1 (some (.object "com/example/thorough_topology/thoroughtopology/model/IndexSet")) :: ws) RMrmIxs) (fun a U => a = #[(.ref a1)] ∧ Z.Warmed39 U.vm ∧ U.heap = h0) (fun _ _ _ _ _ => True) (fun _ U o U' => ∃ v L, o = .returned v ∧ QrmIxs Z zc k_BOOL k_INT a1 xv h0 v U'.heap L ∧ FrameEnd U o U' L RMrmIxs.cells RMrmIxs.slots) := by
  refine MetFree.of_bodySF (plainFor_of_name pn_com_example_thorough_topology_thoroughtopology_model_Parameter) hisR ?_
  intro p e s m args below meth c s₁ Bd hml0 hP hK
  obtain ⟨rfl, hZ, hh⟩ := hP
  have hx := Bd.exec
  have hby := Bd.bytes
  have hlk : meth.locks = false := BodyLoose.notSynchronized Bd
  have hret := Bd.returns
  have hml : c.maxLocals = 1 := hml0
  have hown : s.vm.findClass "com/example/thorough_topology/thoroughtopology/model/Parameter" = some m.cls := findClass_of_methodNamed Bd.named
  have hnm := (name_of_methodNamed Bd.named Bd.method).1
  have X0 : Stand p l e RMrmIxs s m #[(.ref a1)] below meth c s₁ [] 0 0 := Stand.of_body Bd
  have e0 : s₁.heap = h0 := by rw [← hh, Bd.state]; rfl
  have N0 := Fr.nil Z.heap.size
  show OEnd p e below (GN s (QrmIxs Z zc k_BOOL k_INT a1 xv h0) RMrmIxs.cells RMrmIxs.slots) _
  refine OEnd.of (fun t k => castTop (ef_rmIxs m a1) k) ?_
  refine OEnd.of (fun t k => XS.aloadN X0.here hx rfl (hb hby d15_0) rfl rfl k) ?_
  show OEnd p e below _ (s₁.setTop (mkF m 1 #[.val (.ref a1)] [(.ref a1)]))
  obtain ⟨T105, X105, e105, st105⟩ := getF X0 hx hZ hown (host := "") (Or.inl (hw _ (List.mem_of_getElem? (i := 81) rfl))) Via.refl e0 Fx (g := (mkF m 1 #[.val (.ref a1)] [(.ref a1)])) rfl rfl (hb hby d15_1)
  refine OEnd.of st105 ?_
  show OEnd p e below _ (T105.setTop (mkF m 4 #[.val (.ref a1)] [xv]))
  exact OEnd.retA X105 hx hlk e105 hret rfl h_xv (hb hby d15_4) ⟨rfl, N0, rfl⟩ (by decide) (by decide)
theorem own_same' {b e : Int32} {P : Prop} (h1 : (P ∧ b = 0) ∨ (¬ P ∧ b = 1)) (h2 : (P ∧ e = 0) ∨ (¬ P ∧ e = 1)) : b = e := by
  rcases h1 with ⟨p, rfl⟩ | ⟨p, rfl⟩
  · rcases h2 with ⟨q, rfl⟩ | ⟨q, rfl⟩
    · rfl
    · exact absurd p q
  · rcases h2 with ⟨q, rfl⟩ | ⟨q, rfl⟩
    · exact absurd q p
    · rfl
theorem pd_285bC29V : parseMethodDescriptor "([C)V" = some ⟨[(.array .char)], none⟩ := by decide +kernel
theorem pd_28Ljava2flang2fString3bLcom2fexample2fthorough_topology2fthoroughtopology2fmodel2fSort3bLcom2fexample2fthorough_topology2fthoroughtopology2fmodel2fIndexSet3b29V : parseMethodDescriptor "(Ljava/lang/String;Lcom/example/thorough_topology/thoroughtopology/model/Sort;Lcom/example/thorough_topology/thoroughtopology/model/IndexSet;)V" = some ⟨[(.object "java/lang/String"), (.object "com/example/thorough_topology/thoroughtopology/model/Sort"), (.object "com/example/thorough_topology/thoroughtopology/model/IndexSet")], none⟩ := by decide +kernel
theorem pd_2829Z : parseMethodDescriptor "()Z" = some ⟨[], some .boolean⟩ := by decide +kernel
theorem pd_2829Lcom2fexample2fthorough_topology2fthoroughtopology2fmodel2fIndexSet3b : parseMethodDescriptor "()Lcom/example/thorough_topology/thoroughtopology/model/IndexSet;" = some ⟨[], some (.object "com/example/thorough_topology/thoroughtopology/model/IndexSet")⟩ := by decide +kernel
theorem pd_28C29Ljava2flang2fString3b : parseMethodDescriptor "(C)Ljava/lang/String;" = some ⟨[.char], some (.object "java/lang/String")⟩ := by decide +kernel
theorem pd_28Ljava2flang2fString3b29V : parseMethodDescriptor "(Ljava/lang/String;)V" = some ⟨[(.object "java/lang/String")], none⟩ := by decide +kernel
theorem pn_com_example_thorough_topology_thoroughtopology_model_ParameterIsIndexedPinLaw : plainName "com/example/thorough_topology/thoroughtopology/model/ParameterIsIndexedPinLaw" = true := by first | (simp [plainName, overriddenIn]; done) | decide +kernel
theorem ef_rm0 (m : MethodId) (p0 : Int32) (p1 : Int32) (p2 : Int32) (p3 : Int32) : entryFrame m #[(.int p0), (.int p1), (.int p2), (.int p3)] maxLocals = mkF m 0 #[.val (.int p0), .val (.int p1), .val (.int p2), .val (.int p3), .unset, .unset, .unset, .unset, .unset, .unset, .unset] [] := by first | (simp [entryFrame, mkF, argsToLocals, Value.category, maxLocals]; done) | rfl
def Qrm0 (Z : State) (zc : Int32) (k_BOOL : Addr) (k_INT : Addr) (p0 : Int32) (p1 : Int32) (p2 : Int32) (p3 : Int32) (h0 : Heap) (v : Option Value) (h : Heap) (L : List Loc) : Prop := v = some (.int (1 : Int32)) ∧ Fr Z.heap.size L ∧ Keep h0 h []
set_option maxRecDepth 65536 in
set_option maxHeartbeats 40000000 in
theorem rm0 (l : Launch) (Z : State) (a0 : Array Value) (hw : ∀ d ∈ tables_1, d.before a0 Z = true) (zc : Int32) (k_BOOL : Addr) (k_INT : Addr) (S_CS : Sta Z Z.heap "java/lang/String" "COMPACT_STRINGS" "Z" (.int zc)) (hzc : ¬ zc = 0) (S_BOOL : Sta Z Z.heap "com/example/thorough_topology/thoroughtopology/model/Sort" "BOOL" "Lcom/example/thorough_topology/thoroughtopology/model/Sort;" (.ref k_BOOL)) (S_INT : Sta Z Z.heap "com/example/thorough_topology/thoroughtopology/model/Sort" "INT" "Lcom/example/thorough_topology/thoroughtopology/model/Sort;" (.ref k_INT)) (E_BOOL : Exa Z Z.heap k_BOOL "com/example/thorough_topology/thoroughtopology/model/Sort") (E_INT : Exa Z Z.heap k_INT "com/example/thorough_topology/thoroughtopology/model/Sort") (hEL : EW Z a0 EL) (ws : List Jvm.Cond) (p0 : Int32) (p1 : Int32) (p2 : Int32) (p3 : Int32) (h0 : Heap) (O0 : Ext Z.heap h0) :
    MetFree l x (head1 (Jvm.Cond.code x code maxLocals ret :: ws) room_1) (fun a U => a = #[(.int p0), (.int p1), (.int p2), (.int p3)] ∧ Z.Warmed39 U.vm ∧ U.heap = h0 ∧ CHv Z EL U.vm h0) (fun _ _ _ _ _ => True) (fun _ U o U' => ∃ v L, o = .returned v ∧ Qrm0 Z zc k_BOOL k_INT p0 p1 p2 p3 h0 v U'.heap L ∧ CHr Z EL U.vm U.heap U'.vm U'.heap ∧ ReturnedEndW U o U' L 32 3200) := by
  refine MetFree.of_bodySF (plainFor_of_name pn_com_example_thorough_topology_thoroughtopology_model_ParameterIsIndexedPinLaw) hisR ?_
  intro p e s m args below meth c s₁ Bd hml0 hP hK
  obtain ⟨rfl, hZ, hh, hC0⟩ := hP
  have hx := Bd.exec
  have hby := Bd.bytes
  have hlk : meth.locks = false := BodyLoose.notSynchronized Bd
  have hret := Bd.returns
  have hml : c.maxLocals = 11 := hml0
  have hown : s.vm.findClass "com/example/thorough_topology/thoroughtopology/model/ParameterIsIndexedPinLaw" = some m.cls := findClass_of_methodNamed Bd.named
  have hnm := (name_of_methodNamed Bd.named Bd.method).1
  have X0 : Stand p l e room_1 (s.setVm s.vm) m #[(.int p0), (.int p1), (.int p2), (.int p3)] below meth c s₁ [] 0 0 := Stand.of_body Bd
  have e0 : s₁.heap = h0 := by rw [← hh, Bd.state]; rfl
  have N0 := Fr.nil Z.heap.size
  have hZ : Z.Warmed39 (s.setVm s.vm).vm := hZ
  have hS0 : s.Since s.vm h0.size := (State.WarmedH.refl s).since _
  have hk0 : h0.size ≤ h0.size := Nat.le_refl _
  have HR0 : CHr Z EL s.vm h0 s.vm h0 := CHr.refl hC0
  have hwS : ∀ d ∈ Bundle.stringAtoms, d.before a0 Z = true := fun d hd => hw d (own_strAtoms d hd)
  show OEnd p e below (GW s Z EL (Qrm0 Z zc k_BOOL k_INT p0 p1 p2 p3 h0) 32 3200) _
  refine OEnd.of (fun t k => castTop (ef_rm0 m p0 p1 p2 p3) k) ?_
  refine OEnd.of (fun t k => XS.iconst X0.here hx rfl (hb hby at_0) k) ?_
  show OEnd p e below _ (s₁.setTop (mkF m 1 #[.val (.int p0), .val (.int p1), .val (.int p2), .val (.int p3), .unset, .unset, .unset, .unset, .unset, .unset, .unset] [(.int (2 : Int32))]))
  obtain ⟨T106, h106, k106, X106, e106, E106, A106, st106⟩ := newP X0 hx hZ (hw _ (List.mem_of_getElem? (i := 0) rfl)) e0 (g := (mkF m 1 #[.val (.int p0), .val (.int p1), .val (.int p2), .val (.int p3), .unset, .unset, .unset, .unset, .unset, .unset, .unset] [(.int (2 : Int32))])) rfl (hb hby at_1) rfl (by decide) (cap := 2) (by decide) (by decide) (by decide) (by decide)
  obtain ⟨b106, g106⟩ : ∃ z, z = h0.size := ⟨_, rfl⟩
  rw [← g106] at A106 st106
  refine OEnd.of st106 ?_
  have V106 : Arv Z h106 b106 k106 .char (2 : Int32) [(.int (0 : Int32)), (.int (0 : Int32))] (.int (0 : Int32)) := (Arv.new A106 (by decide)).pad (pad_rep [] (.int (0 : Int32)) 2)
  have f106 : Z.heap.size ≤ b106 := Nat.le_trans O0.1 (Nat.le_of_eq g106.symm)
  have CR107 : CHr Z EL s.vm h0 s.vm h106 := CHr.ext E106 HR0.1
  have HR108 : CHr Z EL s.vm h0 s.vm h106 := HR0.trans CR107
  show OEnd p e below _ (T106.setTop (mkF m 3 #[.val (.int p0), .val (.int p1), .val (.int p2), .val (.int p3), .unset, .unset, .unset, .unset, .unset, .unset, .unset] [(.ref b106)]))
  refine OEnd.of (fun t k => XS.astore X106.here hx rfl (hb hby at_3) rfl rfl (l' := #[.val (.int p0), .val (.int p1), .val (.int p2), .val (.int p3), .val (.ref b106), .unset, .unset, .unset, .unset, .unset, .unset]) rfl k) ?_
  show OEnd p e below _ (T106.setTop (mkF m 5 #[.val (.int p0), .val (.int p1), .val (.int p2), .val (.int p3), .val (.ref b106), .unset, .unset, .unset, .unset, .unset, .unset] []))
  refine OEnd.of (fun t k => XS.aload X106.here hx rfl (hb hby at_5) rfl rfl k) ?_
  show OEnd p e below _ (T106.setTop (mkF m 7 #[.val (.int p0), .val (.int p1), .val (.int p2), .val (.int p3), .val (.ref b106), .unset, .unset, .unset, .unset, .unset, .unset] [(.ref b106)]))
  refine OEnd.of (fun t k => XS.iconst X106.here hx rfl (hb hby at_7) k) ?_
  show OEnd p e below _ (T106.setTop (mkF m 8 #[.val (.int p0), .val (.int p1), .val (.int p2), .val (.int p3), .val (.ref b106), .unset, .unset, .unset, .unset, .unset, .unset] [(.int (0 : Int32)), (.ref b106)]))
  refine OEnd.of (fun t k => XS.iloadN X106.here hx rfl (hb hby at_8) rfl k) ?_
  show OEnd p e below _ (T106.setTop (mkF m 9 #[.val (.int p0), .val (.int p1), .val (.int p2), .val (.int p3), .val (.ref b106), .unset, .unset, .unset, .unset, .unset, .unset] [(.int p0), (.int (0 : Int32)), (.ref b106)]))
  refine OEnd.of (fun t k => XS.sipush X106.here hx rfl (hb hby at_9) k) ?_
  show OEnd p e below _ (T106.setTop (mkF m 12 #[.val (.int p0), .val (.int p1), .val (.int p2), .val (.int p3), .val (.ref b106), .unset, .unset, .unset, .unset, .unset, .unset] [(.int (255 : Int32)), (.int p0), (.int (0 : Int32)), (.ref b106)]))
  refine OEnd.of (fun t k => XS.iand X106.here hx rfl (hb hby at_12) rfl k) ?_
  show OEnd p e below _ (T106.setTop (mkF m 13 #[.val (.int p0), .val (.int p1), .val (.int p2), .val (.int p3), .val (.ref b106), .unset, .unset, .unset, .unset, .unset, .unset] [(.int (p0 &&& (255 : Int32))), (.int (0 : Int32)), (.ref b106)]))
  refine OEnd.of (fun t k => XS.i2c X106.here hx rfl (hb hby at_13) rfl k) ?_
  show OEnd p e below _ (T106.setTop (mkF m 14 #[.val (.int p0), .val (.int p1), .val (.int p2), .val (.int p3), .val (.ref b106), .unset, .unset, .unset, .unset, .unset, .unset] [(.int ((p0 &&& (255 : Int32)).toUInt32.toUInt16.toUInt32.toInt32)), (.int (0 : Int32)), (.ref b106)]))
  generalize q_ch109 : ((p0 &&& (255 : Int32)).toUInt32.toUInt16.toUInt32.toInt32) = ch109
  have hch_ch109 : ¬ ch109 < 0 ∧ ¬ (255 : Int32) < ch109 := own_ch q_ch109
  have Vc110 := V106
  obtain ⟨cl110, Ar110, q110, S110, N110, H110, G110⟩ := Vc110
  have hin110 : ¬ ((0 : Int32) < 0 ∨ cl110.slots.size ≤ ((0 : Int32)).toNatClampNeg) := inb_of S110 ⟨by decide, by decide⟩
  obtain ⟨T110, h110, X110, e110, W110, st110⟩ := stC X106 hx hZ e106 Ar110 (j := (0 : Int32)) hin110 (g := (mkF m 14 #[.val (.int p0), .val (.int p1), .val (.int p2), .val (.int p3), .val (.ref b106), .unset, .unset, .unset, .unset, .unset, .unset] [(.int ch109), (.int (0 : Int32)), (.ref b106)])) rfl rfl (hb hby at_14)
  refine OEnd.of st110 ?_
  rw [(own_narC hch_ch109)] at W110
  have V111 : Arv Z h110 b106 k106 .char (2 : Int32) [(.int ch109), (.int (0 : Int32))] (.int (0 : Int32)) := Arv.set Ar110 q110 S110 N110 H110 G110 ((own_narC hch_ch109) ▸ fits_nar_char _) W110 0 rfl (Nat.le_of_ble_eq_true rfl)
  have N112 := Fr.snoc X110 N0 f106
  have CR113 : CHr Z EL s.vm h106 s.vm h110 := CHr.wr W110 (own_safeArv hZ.alike V106 (by decide)) HR108.1
  have HR114 : CHr Z EL s.vm h0 s.vm h110 := HR108.trans CR113
  show OEnd p e below _ (T110.setTop (mkF m 15 #[.val (.int p0), .val (.int p1), .val (.int p2), .val (.int p3), .val (.ref b106), .unset, .unset, .unset, .unset, .unset, .unset] []))
  refine OEnd.of (fun t k => XS.aload X110.here hx rfl (hb hby at_15) rfl rfl k) ?_
  show OEnd p e below _ (T110.setTop (mkF m 17 #[.val (.int p0), .val (.int p1), .val (.int p2), .val (.int p3), .val (.ref b106), .unset, .unset, .unset, .unset, .unset, .unset] [(.ref b106)]))
  refine OEnd.of (fun t k => XS.iconst X110.here hx rfl (hb hby at_17) k) ?_
  show OEnd p e below _ (T110.setTop (mkF m 18 #[.val (.int p0), .val (.int p1), .val (.int p2), .val (.int p3), .val (.ref b106), .unset, .unset, .unset, .unset, .unset, .unset] [(.int (1 : Int32)), (.ref b106)]))
  refine OEnd.of (fun t k => XS.iloadN X110.here hx rfl (hb hby at_18) rfl k) ?_
  show OEnd p e below _ (T110.setTop (mkF m 19 #[.val (.int p0), .val (.int p1), .val (.int p2), .val (.int p3), .val (.ref b106), .unset, .unset, .unset, .unset, .unset, .unset] [(.int p1), (.int (1 : Int32)), (.ref b106)]))
  refine OEnd.of (fun t k => XS.sipush X110.here hx rfl (hb hby at_19) k) ?_
  show OEnd p e below _ (T110.setTop (mkF m 22 #[.val (.int p0), .val (.int p1), .val (.int p2), .val (.int p3), .val (.ref b106), .unset, .unset, .unset, .unset, .unset, .unset] [(.int (255 : Int32)), (.int p1), (.int (1 : Int32)), (.ref b106)]))
  refine OEnd.of (fun t k => XS.iand X110.here hx rfl (hb hby at_22) rfl k) ?_
  show OEnd p e below _ (T110.setTop (mkF m 23 #[.val (.int p0), .val (.int p1), .val (.int p2), .val (.int p3), .val (.ref b106), .unset, .unset, .unset, .unset, .unset, .unset] [(.int (p1 &&& (255 : Int32))), (.int (1 : Int32)), (.ref b106)]))
  refine OEnd.of (fun t k => XS.i2c X110.here hx rfl (hb hby at_23) rfl k) ?_
  show OEnd p e below _ (T110.setTop (mkF m 24 #[.val (.int p0), .val (.int p1), .val (.int p2), .val (.int p3), .val (.ref b106), .unset, .unset, .unset, .unset, .unset, .unset] [(.int ((p1 &&& (255 : Int32)).toUInt32.toUInt16.toUInt32.toInt32)), (.int (1 : Int32)), (.ref b106)]))
  generalize q_ch115 : ((p1 &&& (255 : Int32)).toUInt32.toUInt16.toUInt32.toInt32) = ch115
  have hch_ch115 : ¬ ch115 < 0 ∧ ¬ (255 : Int32) < ch115 := own_ch q_ch115
  have Vc116 := V111
  obtain ⟨cl116, Ar116, q116, S116, N116, H116, G116⟩ := Vc116
  have hin116 : ¬ ((1 : Int32) < 0 ∨ cl116.slots.size ≤ ((1 : Int32)).toNatClampNeg) := inb_of S116 ⟨by decide, by decide⟩
  obtain ⟨T116, h116, X116, e116, W116, st116⟩ := stC X110 hx hZ e110 Ar116 (j := (1 : Int32)) hin116 (g := (mkF m 24 #[.val (.int p0), .val (.int p1), .val (.int p2), .val (.int p3), .val (.ref b106), .unset, .unset, .unset, .unset, .unset, .unset] [(.int ch115), (.int (1 : Int32)), (.ref b106)])) rfl rfl (hb hby at_24)
  refine OEnd.of st116 ?_
  rw [(own_narC hch_ch115)] at W116
  have V117 : Arv Z h116 b106 k106 .char (2 : Int32) [(.int ch109), (.int ch115)] (.int (0 : Int32)) := Arv.set Ar116 q116 S116 N116 H116 G116 ((own_narC hch_ch115) ▸ fits_nar_char _) W116 1 rfl (Nat.le_of_ble_eq_true rfl)
  have N118 := Fr.snoc X116 N112 f106
  have CR119 : CHr Z EL s.vm h110 s.vm h116 := CHr.wr W116 (own_safeArv hZ.alike V111 (by decide)) HR114.1
  have HR120 : CHr Z EL s.vm h0 s.vm h116 := HR114.trans CR119
  show OEnd p e below _ (T116.setTop (mkF m 25 #[.val (.int p0), .val (.int p1), .val (.int p2), .val (.int p3), .val (.ref b106), .unset, .unset, .unset, .unset, .unset, .unset] []))
  have K122 : Keep h0 h116 [] := ((((Keep.refl h0 []).ext E106).wr W110 (Or.inr (Nat.le_of_eq g106.symm))).wr W116 (Or.inr (Nat.le_of_eq g106.symm)))
  have O123 : Ext Z.heap h116 := own_extKeep O0 K122 all0
  obtain ⟨T121, h121, X121, e121, E121, A121, D121, -, st121⟩ := newO X116 hx hZ hown (hw _ (List.mem_of_getElem? (i := 1) rfl)) (hw _ (List.mem_of_getElem? (i := 2) rfl)) (hw _ (List.mem_of_getElem? (i := 3) rfl)) e116 (g := (mkF m 25 #[.val (.int p0), .val (.int p1), .val (.int p2), .val (.int p3), .val (.ref b106), .unset, .unset, .unset, .unset, .unset, .unset] [])) rfl (hb hby at_25) (by decide) (by decide)
  obtain ⟨b121, g121⟩ : ∃ z, z = h116.size := ⟨_, rfl⟩
  rw [← g121] at A121 D121 st121
  refine OEnd.of st121 ?_
  have f121 : Z.heap.size ≤ b121 := Nat.le_trans O123.1 (Nat.le_of_eq g121.symm)
  have F124 : Fld Z h121 b121 "java/lang/String" "coder" "B" (.int (0 : Int32)) := D121 (Or.inr (hw _ (List.mem_of_getElem? (i := 27) rfl))) (ty := .byte) (by decide)
  have F125 : Fld Z h121 b121 "java/lang/String" "value" "[B" .null := D121 (Or.inr (hw _ (List.mem_of_getElem? (i := 29) rfl))) (ty := (.array .byte)) (by decide)
  have CR126 : CHr Z EL s.vm h116 s.vm h121 := CHr.ext E121 HR120.1
  have HR127 : CHr Z EL s.vm h0 s.vm h121 := HR120.trans CR126
  show OEnd p e below _ (T121.setTop (mkF m 28 #[.val (.int p0), .val (.int p1), .val (.int p2), .val (.int p3), .val (.ref b106), .unset, .unset, .unset, .unset, .unset, .unset] [(.ref b121)]))
  refine OEnd.of (fun t k => XS.dup X121.here hx rfl (hb hby at_28) rfl rfl k) ?_
  show OEnd p e below _ (T121.setTop (mkF m 29 #[.val (.int p0), .val (.int p1), .val (.int p2), .val (.int p3), .val (.ref b106), .unset, .unset, .unset, .unset, .unset, .unset] [(.ref b121), (.ref b121)]))
  refine OEnd.of (fun t k => XS.aload X121.here hx rfl (hb hby at_29) rfl rfl k) ?_
  show OEnd p e below _ (T121.setTop (mkF m 31 #[.val (.int p0), .val (.int p1), .val (.int p2), .val (.int p3), .val (.ref b106), .unset, .unset, .unset, .unset, .unset, .unset] [(.ref b106), (.ref b121), (.ref b121)]))
  have K128 : Keep h116 h121 [] := ((Keep.refl h116 []).ext E121)
  have O129 : Ext Z.heap h121 := own_extKeep O123 K128 all0
  obtain ⟨_, _, ⟨T130, L130, k130, n130⟩, -, X130, ⟨Lc130, hQ130, l130, y130, z130⟩, st130⟩ := X121.specialBack hx (y := (⟨"java/lang/String", "<init>", "([C)V"⟩ : MethodName)) rfl hown (mvT hZ (hw _ (List.mem_of_getElem? (i := 4) rfl))) (mvT hZ (hw _ (List.mem_of_getElem? (i := 5) rfl))) (mvT hZ (hw _ (List.mem_of_getElem? (i := 6) rfl))) (by decide) (StrChars.Road.backV (W := 1) hZ (fun d hd => hw d (own_strWords d hd)) (kI := 4) (hw _ (List.mem_of_getElem? (i := 2) rfl)) (cs := [ch109, ch115]) (bs := [ch109, ch115].map (fun c => c.toInt8.toInt32)) (n := 2) (n0 := Z.heap.size) f121 O129.1 A121 F125 F124 (V117.keep K128 nin0) (Sta.ext O129 S_CS) hzc rfl rfl (by decide) (by decide) (List.forall_mem_cons.mpr ⟨hch_ch109, (List.forall_mem_cons.mpr ⟨hch_ch115, (fun _ q => nomatch q)⟩)⟩) rfl (by decide) (by decide)) (g := (mkF m 31 #[.val (.int p0), .val (.int p1), .val (.int p2), .val (.int p3), .val (.ref b106), .unset, .unset, .unset, .unset, .unset, .unset] [(.ref b106), (.ref b121), (.ref b121)])) rfl (by rw [hml]; rfl) (Steps.refl _) (a := b121) (argsL := [(.ref b106)]) (rest := [(.ref b121)]) (lenOf pd_285bC29V rfl) rfl (by show 2 * 0 + _ ≤ _; exact Nat.le_of_eq rfl) (hb hby at_31) (fun _ _ => ⟨rfl, e121, (by decide : 2 + 1 ≤ _), (by decide : 6 + 2 ≤ _)⟩)
  dsimp only [Pt.U, Pt.locs, Pt.cells, Pt.slots] at X130 l130 y130 z130 st130 hQ130
  subst l130 y130 z130
  obtain ⟨h130, e130⟩ : ∃ z, T130.heap = z := ⟨_, rfl⟩
  rw [e130] at hQ130
  have Sf131 : Safe Z EL s.vm h121 b121 := own_safeNull hZ.alike A121 F125
  have lt132 : b121 < h121.size := (A121).lt
  obtain ⟨rfl, Nq130, Kq130, Ex130, Cd130, t130, kb130, f130, hh130, nx130, Vl130, Ar130⟩ := hQ130
  have N133 := Fr.app N118 Nq130
  have CR134 : CHr Z EL s.vm h121 s.vm h130 := CHr.keep Kq130 (allS Sf131 all0) HR127.1
  have HR135 : CHr Z EL s.vm h0 s.vm h130 := HR127.trans CR134
  have Sf136 : Safe Z EL s.vm h130 b121 := CR134.safe lt132 Sf131
  refine OEnd.of (fun t k => st130.trans k) ?_
  show OEnd p e below _ (T130.setTop (mkF m 34 #[.val (.int p0), .val (.int p1), .val (.int p2), .val (.int p3), .val (.ref b106), .unset, .unset, .unset, .unset, .unset, .unset] [(.ref b121)]))
  have St137 : IsStr Z h130 b121 [ch109, ch115] := ⟨Ex130, Cd130, ⟨t130, kb130, Vl130, Ar130⟩, (List.forall_mem_cons.mpr ⟨hch_ch109, (List.forall_mem_cons.mpr ⟨hch_ch115, (fun _ q => nomatch q)⟩)⟩), Nat.le_of_ble_eq_true rfl⟩
  refine OEnd.of (fun t k => XS.astore X130.here hx rfl (hb hby at_34) rfl rfl (l' := #[.val (.int p0), .val (.int p1), .val (.int p2), .val (.int p3), .val (.ref b106), .val (.ref b121), .unset, .unset, .unset, .unset, .unset]) rfl k) ?_
  show OEnd p e below _ (T130.setTop (mkF m 36 #[.val (.int p0), .val (.int p1), .val (.int p2), .val (.int p3), .val (.ref b106), .val (.ref b121), .unset, .unset, .unset, .unset, .unset] []))
  refine OEnd.of (fun t k => XS.iloadN X130.here hx rfl (hb hby at_36) rfl k) ?_
  show OEnd p e below _ (T130.setTop (mkF m 37 #[.val (.int p0), .val (.int p1), .val (.int p2), .val (.int p3), .val (.ref b106), .val (.ref b121), .unset, .unset, .unset, .unset, .unset] [(.int p3)]))
  refine OEnd.of (fun t k => XS.iconst X130.here hx rfl (hb hby at_37) k) ?_
  show OEnd p e below _ (T130.setTop (mkF m 38 #[.val (.int p0), .val (.int p1), .val (.int p2), .val (.int p3), .val (.ref b106), .val (.ref b121), .unset, .unset, .unset, .unset, .unset] [(.int (2 : Int32)), (.int p3)]))
  refine OEnd.of (fun t k => XS.iand X130.here hx rfl (hb hby at_38) rfl k) ?_
  show OEnd p e below _ (T130.setTop (mkF m 39 #[.val (.int p0), .val (.int p1), .val (.int p2), .val (.int p3), .val (.ref b106), .val (.ref b121), .unset, .unset, .unset, .unset, .unset] [(.int (p3 &&& (2 : Int32)))]))
  have J138 : ∀ (vm138 : Vm) (T138 : State) (Lo138 : List Loc) (so51 : Addr), Stand p l e room_1 (s.setVm vm138) m #[(.int p0), (.int p1), (.int p2), (.int p3)] below meth c T138 Lo138 3 8 → T138.heap = h130 → Fr Z.heap.size Lo138 → (∃ k0, s.Since vm138 k0 ∧ k0 ≤ h130.size) → Z.Warmed39 (s.setVm vm138).vm → (s.setVm vm138).vm.findClass "com/example/thorough_topology/thoroughtopology/model/ParameterIsIndexedPinLaw" = some m.cls → CHr Z EL s.vm h0 vm138 h130 → Exa Z h130 so51 "com/example/thorough_topology/thoroughtopology/model/Sort" → OEnd p e below (GW s Z EL (Qrm0 Z zc k_BOOL k_INT p0 p1 p2 p3 h0) 32 3200) (T138.setTop (mkF m 51 #[.val (.int p0), .val (.int p1), .val (.int p2), .val (.int p3), .val (.ref b106), .val (.ref b121), .unset, .unset, .unset, .unset, .unset] [(.ref so51)])) := by
    rintro vm138 T138 Lo138 so51 X138 e138 N138 ⟨kk138, hS138, hk138⟩ hZ138 hown138 HR138 Eso
    show OEnd p e below _ (T138.setTop (mkF m 51 #[.val (.int p0), .val (.int p1), .val (.int p2), .val (.int p3), .val (.ref b106), .val (.ref b121), .unset, .unset, .unset, .unset, .unset] [(.ref so51)]))
    refine OEnd.of (fun t k => XS.astore X138.here hx rfl (hb hby at_51) rfl rfl (l' := #[.val (.int p0), .val (.int p1), .val (.int p2), .val (.int p3), .val (.ref b106), .val (.ref b121), .val (.ref so51), .unset, .unset, .unset, .unset]) rfl k) ?_
    show OEnd p e below _ (T138.setTop (mkF m 53 #[.val (.int p0), .val (.int p1), .val (.int p2), .val (.int p3), .val (.ref b106), .val (.ref b121), .val (.ref so51), .unset, .unset, .unset, .unset] []))
    refine OEnd.of (fun t k => XS.iloadN X138.here hx rfl (hb hby at_53) rfl k) ?_
    show OEnd p e below _ (T138.setTop (mkF m 54 #[.val (.int p0), .val (.int p1), .val (.int p2), .val (.int p3), .val (.ref b106), .val (.ref b121), .val (.ref so51), .unset, .unset, .unset, .unset] [(.int p3)]))
    refine OEnd.of (fun t k => XS.iconst X138.here hx rfl (hb hby at_54) k) ?_
    show OEnd p e below _ (T138.setTop (mkF m 55 #[.val (.int p0), .val (.int p1), .val (.int p2), .val (.int p3), .val (.ref b106), .val (.ref b121), .val (.ref so51), .unset, .unset, .unset, .unset] [(.int (1 : Int32)), (.int p3)]))
    refine OEnd.of (fun t k => XS.iand X138.here hx rfl (hb hby at_55) rfl k) ?_
    show OEnd p e below _ (T138.setTop (mkF m 56 #[.val (.int p0), .val (.int p1), .val (.int p2), .val (.int p3), .val (.ref b106), .val (.ref b121), .val (.ref so51), .unset, .unset, .unset, .unset] [(.int (p3 &&& (1 : Int32)))]))
    have J139 : ∀ (vm139 : Vm) (T139 : State) (h139 : Heap) (Lo139 : List Loc) (n7 : Int32) (xv8 : Value) (h_xv8 : xv8.isRef = true), Stand p l e room_1 (s.setVm vm139) m #[(.int p0), (.int p1), (.int p2), (.int p3)] below meth c T139 Lo139 13 72 → T139.heap = h139 → Fr Z.heap.size Lo139 → Keep h130 h139 [] → (∃ k0, s.Since vm139 k0 ∧ k0 ≤ h139.size) → Z.Warmed39 (s.setVm vm139).vm → (s.setVm vm139).vm.findClass "com/example/thorough_topology/thoroughtopology/model/ParameterIsIndexedPinLaw" = some m.cls → CHr Z EL s.vm h0 vm139 h139 → ((xv8 = Value.null ∧ n7 = 0) ∨ (¬ xv8 = Value.null ∧ n7 = 1)) → OEnd p e below (GW s Z EL (Qrm0 Z zc k_BOOL k_INT p0 p1 p2 p3 h0) 32 3200) (T139.setTop (mkF m 92 #[.val (.int p0), .val (.int p1), .val (.int p2), .val (.int p3), .val (.ref b106), .val (.ref b121), .val (.ref so51), .val (.int n7), .val xv8, .unset, .unset] [])) := by
      rintro vm139 T139 h139 Lo139 n7 xv8 h_xv8 X139 e139 N139 Kj139 ⟨kk139, hS139, hk139⟩ hZ139 hown139 HR139 h92
      show OEnd p e below _ (T139.setTop (mkF m 92 #[.val (.int p0), .val (.int p1), .val (.int p2), .val (.int p3), .val (.ref b106), .val (.ref b121), .val (.ref so51), .val (.int n7), .val xv8, .unset, .unset] []))
      have K141 : Keep h121 h139 [b121] := (((Keep.refl h121 [b121]).trans Kq130 (allS (Or.inl (List.mem_of_getElem? (i := 0) rfl)) all0)).trans Kj139 all0)
      have O142 : Ext Z.heap h139 := own_extKeep O129 K141 (allS f121 all0)
      obtain ⟨T140, h140, X140, e140, E140, A140, D140, -, st140⟩ := newO X139 hx hZ139 hown139 (hw _ (List.mem_of_getElem? (i := 64) rfl)) (hw _ (List.mem_of_getElem? (i := 65) rfl)) (hw _ (List.mem_of_getElem? (i := 66) rfl)) e139 (g := (mkF m 92 #[.val (.int p0), .val (.int p1), .val (.int p2), .val (.int p3), .val (.ref b106), .val (.ref b121), .val (.ref so51), .val (.int n7), .val xv8, .unset, .unset] [])) rfl (hb hby at_92) (by decide) (by decide)
      obtain ⟨b140, g140⟩ : ∃ z, z = h139.size := ⟨_, rfl⟩
      rw [← g140] at A140 D140 st140
      refine OEnd.of st140 ?_
      have f140 : Z.heap.size ≤ b140 := Nat.le_trans O142.1 (Nat.le_of_eq g140.symm)
      have F143 : Fld Z h140 b140 "com/example/thorough_topology/thoroughtopology/model/Parameter" "name" "Ljava/lang/String;" .null := D140 (Or.inr (hw _ (List.mem_of_getElem? (i := 75) rfl))) (ty := (.object "java/lang/String")) (by decide)
      have F144 : Fld Z h140 b140 "com/example/thorough_topology/thoroughtopology/model/Parameter" "sort" "Lcom/example/thorough_topology/thoroughtopology/model/Sort;" .null := D140 (Or.inr (hw _ (List.mem_of_getElem? (i := 80) rfl))) (ty := (.object "com/example/thorough_topology/thoroughtopology/model/Sort")) (by decide)
      have F145 : Fld Z h140 b140 "com/example/thorough_topology/thoroughtopology/model/Parameter" "indexSet" "Lcom/example/thorough_topology/thoroughtopology/model/IndexSet;" .null := D140 (Or.inr (hw _ (List.mem_of_getElem? (i := 82) rfl))) (ty := (.object "com/example/thorough_topology/thoroughtopology/model/IndexSet")) (by decide)
      have CR146 : CHr Z EL vm139 h139 vm139 h140 := CHr.ext E140 HR139.1
      have HR147 : CHr Z EL s.vm h0 vm139 h140 := HR139.trans CR146
      show OEnd p e below _ (T140.setTop (mkF m 95 #[.val (.int p0), .val (.int p1), .val (.int p2), .val (.int p3), .val (.ref b106), .val (.ref b121), .val (.ref so51), .val (.int n7), .val xv8, .unset, .unset] [(.ref b140)]))
      refine OEnd.of (fun t k => XS.dup X140.here hx rfl (hb hby at_95) rfl rfl k) ?_
      show OEnd p e below _ (T140.setTop (mkF m 96 #[.val (.int p0), .val (.int p1), .val (.int p2), .val (.int p3), .val (.ref b106), .val (.ref b121), .val (.ref so51), .val (.int n7), .val xv8, .unset, .unset] [(.ref b140), (.ref b140)]))
      refine OEnd.of (fun t k => XS.aload X140.here hx rfl (hb hby at_96) rfl rfl k) ?_
      show OEnd p e below _ (T140.setTop (mkF m 98 #[.val (.int p0), .val (.int p1), .val (.int p2), .val (.int p3), .val (.ref b106), .val (.ref b121), .val (.ref so51), .val (.int n7), .val xv8, .unset, .unset] [(.ref b121), (.ref b140), (.ref b140)]))
      refine OEnd.of (fun t k => XS.aload X140.here hx rfl (hb hby at_98) rfl rfl k) ?_
      show OEnd p e below _ (T140.setTop (mkF m 100 #[.val (.int p0), .val (.int p1), .val (.int p2), .val (.int p3), .val (.ref b106), .val (.ref b121), .val (.ref so51), .val (.int n7), .val xv8, .unset, .unset] [(.ref so51), (.ref b121), (.ref b140), (.ref b140)]))
      refine OEnd.of (fun t k => XS.aload X140.here hx rfl (hb hby at_100) rfl h_xv8 k) ?_
      show OEnd p e below _ (T140.setTop (mkF m 102 #[.val (.int p0), .val (.int p1), .val (.int p2), .val (.int p3), .val (.ref b106), .val (.ref b121), .val (.ref so51), .val (.int n7), .val xv8, .unset, .unset] [xv8, (.ref so51), (.ref b121), (.ref b140), (.ref b140)]))
      have K149 : Keep h130 h140 [] := (((Keep.refl h130 []).trans Kj139 all0).ext E140)
      have K150 : Keep h139 h140 [] := ((Keep.refl h139 []).ext E140)
      have O151 : Ext Z.heap h140 := own_extKeep O142 K150 all0
      obtain ⟨_, vq148, ⟨T148, L148, k148, n148⟩, -, X148, S148, G148, ⟨Lc148, hQ148, l148, y148, z148, C148⟩, st148⟩ := X140.specialBackS hx (y := (⟨"com/example/thorough_topology/thoroughtopology/model/Parameter", "<init>", "(Ljava/lang/String;Lcom/example/thorough_topology/thoroughtopology/model/Sort;Lcom/example/thorough_topology/thoroughtopology/model/IndexSet;)V"⟩ : MethodName)) rfl hown139 (mvT hZ139 (hw _ (List.mem_of_getElem? (i := 67) rfl))) (mvT hZ139 (hw _ (List.mem_of_getElem? (i := 68) rfl))) (mvT hZ139 (hw _ (List.mem_of_getElem? (i := 69) rfl))) (by decide) (backOfSH (W := 1) (rmPm l Z a0 hw zc k_BOOL k_INT S_CS hzc S_BOOL S_INT E_BOOL E_INT hEL [] b140 b121 so51 xv8 h140 O151 A140 F143 F144 F145 f140 (Ex130.keep K149) (Eso.keep K149) h_xv8) hZ139 (hw _ (List.mem_of_getElem? (i := 69) rfl)) (hw _ (List.mem_of_getElem? (i := 66) rfl)) (by decide) (by decide) hEL HR147.1) (g := (mkF m 102 #[.val (.int p0), .val (.int p1), .val (.int p2), .val (.int p3), .val (.ref b106), .val (.ref b121), .val (.ref so51), .val (.int n7), .val xv8, .unset, .unset] [xv8, (.ref so51), (.ref b121), (.ref b140), (.ref b140)])) rfl (by rw [hml]; rfl) (Steps.refl _) (a := b140) (argsL := [(.ref b121), (.ref so51), xv8]) (rest := [(.ref b140)]) (lenOf pd_28Ljava2flang2fString3bLcom2fexample2fthorough_topology2fthoroughtopology2fmodel2fSort3bLcom2fexample2fthorough_topology2fthoroughtopology2fmodel2fIndexSet3b29V rfl) rfl (by show 2 * 0 + _ ≤ _; exact Nat.le_of_eq rfl) (hb hby at_102) (fun _ _ => ⟨rfl, e140, (by decide : 14 + 4 ≤ _), (by decide : 75 + 40 ≤ _)⟩)
      dsimp only [Pt.U, Pt.locs, Pt.cells, Pt.slots] at X148 l148 y148 z148 st148 hQ148 S148 G148 C148
      subst l148 y148 z148
      obtain ⟨h148, e148⟩ : ∃ z, T148.heap = z := ⟨_, rfl⟩
      rw [e148] at hQ148 C148
      obtain ⟨rfl, Nq148, Kq148, E_152, Fx_153⟩ := hQ148
      have N154 := Fr.app N139 Nq148
      obtain ⟨X148, S148, hZ148, hown148⟩ := rebS hS139 (by rw [e140]; exact (Nat.le_trans hk139 K150.1)) X148 S148 G148 hZ139 hown139
      rw [e148] at S148
      have hk148 : h148.size ≤ h148.size := Nat.le_refl _
      have CR155 : CHr Z EL vm139 h140 T148.vm h148 := C148
      have HR156 : CHr Z EL s.vm h0 T148.vm h148 := HR147.trans CR155
      refine OEnd.of (fun t k => st148.trans k) ?_
      show OEnd p e below _ (T148.setTop (mkF m 105 #[.val (.int p0), .val (.int p1), .val (.int p2), .val (.int p3), .val (.ref b106), .val (.ref b121), .val (.ref so51), .val (.int n7), .val xv8, .unset, .unset] [(.ref b140)]))
      refine OEnd.of (fun t k => XS.astore X148.here hx rfl (hb hby at_105) rfl rfl (l' := #[.val (.int p0), .val (.int p1), .val (.int p2), .val (.int p3), .val (.ref b106), .val (.ref b121), .val (.ref so51), .val (.int n7), .val xv8, .val (.ref b140), .unset]) (own_stV (P := fun zz0 => storeLocals #[.val (.int p0), .val (.int p1), .val (.int p2), .val (.int p3), .val (.ref b106), .val (.ref b121), .val (.ref so51), .val (.int n7), .val zz0, .unset, .unset] 9 (.ref b140) = some #[.val (.int p0), .val (.int p1), .val (.int p2), .val (.int p3), .val (.ref b106), .val (.ref b121), .val (.ref so51), .val (.int n7), .val zz0, .val (.ref b140), .unset]) h_xv8 rfl (fun aa0 => rfl)) k) ?_
      show OEnd p e below _ (T148.setTop (mkF m 107 #[.val (.int p0), .val (.int p1), .val (.int p2), .val (.int p3), .val (.ref b106), .val (.ref b121), .val (.ref so51), .val (.int n7), .val xv8, .val (.ref b140), .unset] []))
      refine OEnd.of (fun t k => XS.aload X148.here hx rfl (hb hby at_107) rfl rfl k) ?_
      show OEnd p e below _ (T148.setTop (mkF m 109 #[.val (.int p0), .val (.int p1), .val (.int p2), .val (.int p3), .val (.ref b106), .val (.ref b121), .val (.ref so51), .val (.int n7), .val xv8, .val (.ref b140), .unset] [(.ref b140)]))
      have K158 : Keep h140 h148 [b140] := ((Keep.refl h140 [b140]).trans Kq148 (allS (Or.inl (List.mem_of_getElem? (i := 0) rfl)) all0))
      have O159 : Ext Z.heap h148 := own_extKeep O151 K158 (allS f140 all0)
      obtain ⟨cq157, kq157, q157a, q157b, q157c⟩ := isOf hZ148 e148 E_152
      obtain ⟨_, _, ⟨T157, L157, k157, n157⟩, -, X157, ⟨Lc157, hQ157, l157, y157, z157⟩, st157⟩ := X148.virtualBack hx (y := (⟨"com/example/thorough_topology/thoroughtopology/model/Parameter", "isIndexed", "()Z"⟩ : MethodName)) (z := (⟨"com/example/thorough_topology/thoroughtopology/model/Parameter", "isIndexed", "()Z"⟩ : MethodName)) hown148 (mvT hZ148 (hw _ (List.mem_of_getElem? (i := 83) rfl))) (mvT hZ148 (hw _ (List.mem_of_getElem? (i := 84) rfl))) (notFace_of_selects (args := #[]) (mvT hZ148 (hw _ (List.mem_of_getElem? (i := 86) rfl)))) (mvT hZ148 (hw _ (List.mem_of_getElem? (i := 86) rfl))) (mvT hZ148 (hw _ (List.mem_of_getElem? (i := 85) rfl))) (by decide) (backOf (W := 0) (rmII l Z a0 hw zc k_BOOL k_INT S_CS hzc S_BOOL S_INT E_BOOL E_INT [] b140 xv8 h148 O159 Fx_153 h_xv8) hZ148 (hw _ (List.mem_of_getElem? (i := 87) rfl)) (hw _ (List.mem_of_getElem? (i := 66) rfl)) (by decide) (by decide)) q157a q157c (g := (mkF m 109 #[.val (.int p0), .val (.int p1), .val (.int p2), .val (.int p3), .val (.ref b106), .val (.ref b121), .val (.ref so51), .val (.int n7), .val xv8, .val (.ref b140), .unset] [(.ref b140)])) rfl (by rw [hml]; rfl) (Steps.refl _) (argsL := []) (rest := []) (lenOf pd_2829Z rfl) rfl (by show 2 * 0 + _ ≤ _; exact Nat.le_of_eq rfl) (hb hby at_109) (fun _ _ => ⟨rfl, e148, (by decide : 18 + 0 ≤ _), (by decide : 115 + 0 ≤ _)⟩)
      dsimp only [Pt.U, Pt.locs, Pt.cells, Pt.slots] at X157 l157 y157 z157 st157 hQ157
      subst l157 y157 z157
      obtain ⟨bb_160, rfl, Nq157, e157, hb_161⟩ := hQ157
      have N162 := Fr.app N154 Nq157
      refine OEnd.of (fun t k => st157.trans k) ?_
      show OEnd p e below _ (T157.setTop (mkF m 112 #[.val (.int p0), .val (.int p1), .val (.int p2), .val (.int p3), .val (.ref b106), .val (.ref b121), .val (.ref so51), .val (.int n7), .val xv8, .val (.ref b140), .unset] [(.int bb_160)]))
      refine OEnd.of (fun t k => XS.istore X157.here hx rfl (hb hby at_112) rfl (l' := #[.val (.int p0), .val (.int p1), .val (.int p2), .val (.int p3), .val (.ref b106), .val (.ref b121), .val (.ref so51), .val (.int n7), .val xv8, .val (.ref b140), .val (.int bb_160)]) (own_stV (P := fun zz0 => storeLocals #[.val (.int p0), .val (.int p1), .val (.int p2), .val (.int p3), .val (.ref b106), .val (.ref b121), .val (.ref so51), .val (.int n7), .val zz0, .val (.ref b140), .unset] 10 (.int bb_160) = some #[.val (.int p0), .val (.int p1), .val (.int p2), .val (.int p3), .val (.ref b106), .val (.ref b121), .val (.ref so51), .val (.int n7), .val zz0, .val (.ref b140), .val (.int bb_160)]) h_xv8 rfl (fun aa0 => rfl)) k) ?_
      show OEnd p e below _ (T157.setTop (mkF m 114 #[.val (.int p0), .val (.int p1), .val (.int p2), .val (.int p3), .val (.ref b106), .val (.ref b121), .val (.ref so51), .val (.int n7), .val xv8, .val (.ref b140), .val (.int bb_160)] []))
      refine OEnd.of (fun t k => XS.iload X157.here hx rfl (hb hby at_114) rfl k) ?_
      show OEnd p e below _ (T157.setTop (mkF m 116 #[.val (.int p0), .val (.int p1), .val (.int p2), .val (.int p3), .val (.ref b106), .val (.ref b121), .val (.ref so51), .val (.int n7), .val xv8, .val (.ref b140), .val (.int bb_160)] [(.int bb_160)]))
      refine OEnd.of (fun t k => XS.iload X157.here hx rfl (hb hby at_116) rfl k) ?_
      show OEnd p e below _ (T157.setTop (mkF m 118 #[.val (.int p0), .val (.int p1), .val (.int p2), .val (.int p3), .val (.ref b106), .val (.ref b121), .val (.ref so51), .val (.int n7), .val xv8, .val (.ref b140), .val (.int bb_160)] [(.int n7), (.int bb_160)]))
      refine OEnd.of (fun t k => XS.icmpNo X157.here hx rfl (hb hby at_118) rfl (teq (own_same' hb_161 h92)).2 k) ?_
      show OEnd p e below _ (T157.setTop (mkF m 121 #[.val (.int p0), .val (.int p1), .val (.int p2), .val (.int p3), .val (.ref b106), .val (.ref b121), .val (.ref so51), .val (.int n7), .val xv8, .val (.ref b140), .val (.int bb_160)] []))
      refine OEnd.of (fun t k => XS.aload X157.here hx rfl (hb hby at_121) rfl rfl k) ?_
      show OEnd p e below _ (T157.setTop (mkF m 123 #[.val (.int p0), .val (.int p1), .val (.int p2), .val (.int p3), .val (.ref b106), .val (.ref b121), .val (.ref so51), .val (.int n7), .val xv8, .val (.ref b140), .val (.int bb_160)] [(.ref b140)]))
      obtain ⟨cq163, kq163, q163a, q163b, q163c⟩ := isOf hZ148 e157 E_152
      obtain ⟨_, _, ⟨T163, L163, k163, n163⟩, -, X163, ⟨Lc163, hQ163, l163, y163, z163⟩, st163⟩ := X157.virtualBack hx (y := (⟨"com/example/thorough_topology/thoroughtopology/model/Parameter", "indexSet", "()Lcom/example/thorough_topology/thoroughtopology/model/IndexSet;"⟩ : MethodName)) (z := (⟨"com/example/thorough_topology/thoroughtopology/model/Parameter", "indexSet", "()Lcom/example/thorough_topology/thoroughtopology/model/IndexSet;"⟩ : MethodName)) hown148 (mvT hZ148 (hw _ (List.mem_of_getElem? (i := 88) rfl))) (mvT hZ148 (hw _ (List.mem_of_getElem? (i := 89) rfl))) (notFace_of_selects (args := #[]) (mvT hZ148 (hw _ (List.mem_of_getElem? (i := 91) rfl)))) (mvT hZ148 (hw _ (List.mem_of_getElem? (i := 91) rfl))) (mvT hZ148 (hw _ (List.mem_of_getElem? (i := 90) rfl))) (by decide) (backOf (W := 0) (rmIxs l Z a0 hw zc k_BOOL k_INT S_CS hzc S_BOOL S_INT E_BOOL E_INT [] b140 xv8 h148 O159 Fx_153 h_xv8) hZ148 (hw _ (List.mem_of_getElem? (i := 92) rfl)) (hw _ (List.mem_of_getElem? (i := 66) rfl)) (by decide) (by decide)) q163a q163c (g := (mkF m 123 #[.val (.int p0), .val (.int p1), .val (.int p2), .val (.int p3), .val (.ref b106), .val (.ref b121), .val (.ref so51), .val (.int n7), .val xv8, .val (.ref b140), .val (.int bb_160)] [(.ref b140)])) rfl (by rw [hml]; rfl) (Steps.refl _) (argsL := []) (rest := []) (lenOf pd_2829Lcom2fexample2fthorough_topology2fthoroughtopology2fmodel2fIndexSet3b rfl) rfl (by show 2 * 0 + _ ≤ _; exact Nat.le_of_eq rfl) (hb hby at_123) (fun _ _ => ⟨rfl, e157, (by decide : 18 + 0 ≤ _), (by decide : 115 + 0 ≤ _)⟩)
      dsimp only [Pt.U, Pt.locs, Pt.cells, Pt.slots] at X163 l163 y163 z163 st163 hQ163
      subst l163 y163 z163
      obtain ⟨rfl, Nq163, e163⟩ := hQ163
      have N164 := Fr.app N162 Nq163
      refine OEnd.of (fun t k => st163.trans k) ?_
      show OEnd p e below _ (T163.setTop (mkF m 126 #[.val (.int p0), .val (.int p1), .val (.int p2), .val (.int p3), .val (.ref b106), .val (.ref b121), .val (.ref so51), .val (.int n7), .val xv8, .val (.ref b140), .val (.int bb_160)] [xv8]))
      refine OEnd.of (fun t k => XS.aload X163.here hx rfl (hb hby at_126) rfl h_xv8 k) ?_
      show OEnd p e below _ (T163.setTop (mkF m 128 #[.val (.int p0), .val (.int p1), .val (.int p2), .val (.int p3), .val (.ref b106), .val (.ref b121), .val (.ref so51), .val (.int n7), .val xv8, .val (.ref b140), .val (.int bb_160)] [xv8, xv8]))
      refine OEnd.of (fun t k => Jvm.RoadKit.acmp (g := (mkF m 128 #[.val (.int p0), .val (.int p1), .val (.int p2), .val (.int p3), .val (.ref b106), .val (.ref b121), .val (.ref so51), .val (.int n7), .val xv8, .val (.ref b140), .val (.int bb_160)] [xv8, xv8])) X163 hx rfl h_xv8 h_xv8 (pc0 := 128) (pc' := 131) (same := true) rfl (hb hby at_128) rfl (decide_eq_true rfl) (by decide) (by decide) k) ?_
      show OEnd p e below _ (T163.setTop (mkF m 131 #[.val (.int p0), .val (.int p1), .val (.int p2), .val (.int p3), .val (.ref b106), .val (.ref b121), .val (.ref so51), .val (.int n7), .val xv8, .val (.ref b140), .val (.int bb_160)] []))
      refine OEnd.of (fun t k => XS.iconst X163.here hx rfl (hb hby at_131) k) ?_
      show OEnd p e below _ (T163.setTop (mkF m 132 #[.val (.int p0), .val (.int p1), .val (.int p2), .val (.int p3), .val (.ref b106), .val (.ref b121), .val (.ref so51), .val (.int n7), .val xv8, .val (.ref b140), .val (.int bb_160)] [(.int (1 : Int32))]))
      refine OEnd.of (fun t k => XS.goto X163.here hx rfl (pc0 := 132) (pc' := 136) rfl (hb hby at_132) (by decide) (by decide) k) ?_
      show OEnd p e below _ (T163.setTop (mkF m 136 #[.val (.int p0), .val (.int p1), .val (.int p2), .val (.int p3), .val (.ref b106), .val (.ref b121), .val (.ref so51), .val (.int n7), .val xv8, .val (.ref b140), .val (.int bb_160)] [(.int (1 : Int32))]))
      have K165 : Keep h0 h139 [] := (((K122.ext E121).trans Kq130 (allS (Or.inr (Nat.le_trans K122.1 (Nat.le_of_eq g121.symm))) all0)).trans Kj139 all0)
      have K166 : Keep h0 h148 [] := (((((K122.ext E121).trans Kq130 (allS (Or.inr (Nat.le_trans K122.1 (Nat.le_of_eq g121.symm))) all0)).trans Kj139 all0).ext E140).trans Kq148 (allS (Or.inr (Nat.le_trans K165.1 (Nat.le_of_eq g140.symm))) all0))
      exact OEnd.retNW X163 hx hlk e163 hh S148 hk148 hEL hZ148 HR156 (t := .boolean) hret (by simp) (hb hby at_136) ⟨rfl, N164, K166⟩ (by decide) (by decide)
    by_cases hc167 : (p3 &&& (1 : Int32)) = (0 : Int32)
    · refine OEnd.of (fun t k => XS.ifYes X138.here hx rfl (pc0 := 56) (pc' := 63) rfl (hb hby at_56) rfl ((if0 _ _).trans (teq hc167).1) (by decide) (by decide) k) ?_
      show OEnd p e below _ (T138.setTop (mkF m 63 #[.val (.int p0), .val (.int p1), .val (.int p2), .val (.int p3), .val (.ref b106), .val (.ref b121), .val (.ref so51), .unset, .unset, .unset, .unset] []))
      refine OEnd.of (fun t k => XS.iconst X138.here hx rfl (hb hby at_63) k) ?_
      show OEnd p e below _ (T138.setTop (mkF m 64 #[.val (.int p0), .val (.int p1), .val (.int p2), .val (.int p3), .val (.ref b106), .val (.ref b121), .val (.ref so51), .unset, .unset, .unset, .unset] [(.int (0 : Int32))]))
      refine OEnd.of (fun t k => XS.istore X138.here hx rfl (hb hby at_64) rfl (l' := #[.val (.int p0), .val (.int p1), .val (.int p2), .val (.int p3), .val (.ref b106), .val (.ref b121), .val (.ref so51), .val (.int (0 : Int32)), .unset, .unset, .unset]) rfl k) ?_
      show OEnd p e below _ (T138.setTop (mkF m 66 #[.val (.int p0), .val (.int p1), .val (.int p2), .val (.int p3), .val (.ref b106), .val (.ref b121), .val (.ref so51), .val (.int (0 : Int32)), .unset, .unset, .unset] []))
      refine OEnd.of (fun t k => XS.aconstNull X138.here hx rfl (hb hby at_66) k) ?_
      show OEnd p e below _ (T138.setTop (mkF m 67 #[.val (.int p0), .val (.int p1), .val (.int p2), .val (.int p3), .val (.ref b106), .val (.ref b121), .val (.ref so51), .val (.int (0 : Int32)), .unset, .unset, .unset] [.null]))
      refine OEnd.of (fun t k => XS.astore X138.here hx rfl (hb hby at_67) rfl rfl (l' := #[.val (.int p0), .val (.int p1), .val (.int p2), .val (.int p3), .val (.ref b106), .val (.ref b121), .val (.ref so51), .val (.int (0 : Int32)), .val .null, .unset, .unset]) rfl k) ?_
      show OEnd p e below _ (T138.setTop (mkF m 69 #[.val (.int p0), .val (.int p1), .val (.int p2), .val (.int p3), .val (.ref b106), .val (.ref b121), .val (.ref so51), .val (.int (0 : Int32)), .val .null, .unset, .unset] []))
      refine OEnd.of (fun t k => XS.iload X138.here hx rfl (hb hby at_69) rfl k) ?_
      show OEnd p e below _ (T138.setTop (mkF m 71 #[.val (.int p0), .val (.int p1), .val (.int p2), .val (.int p3), .val (.ref b106), .val (.ref b121), .val (.ref so51), .val (.int (0 : Int32)), .val .null, .unset, .unset] [(.int (0 : Int32))]))
      refine OEnd.of (fun t k => XS.ifYes X138.here hx rfl (pc0 := 71) (pc' := 92) rfl (hb hby at_71) rfl ((if0 _ _).trans (teq (by decide : ((0 : Int32) = (0 : Int32)))).1) (by decide) (by decide) k) ?_
      show OEnd p e below _ (T138.setTop (mkF m 92 #[.val (.int p0), .val (.int p1), .val (.int p2), .val (.int p3), .val (.ref b106), .val (.ref b121), .val (.ref so51), .val (.int (0 : Int32)), .val .null, .unset, .unset] []))
      exact J139 _ T138 h130 _ (0 : Int32) .null rfl (X138.mono (by decide) (by decide)) e138 N138 (Keep.refl h130 []) ⟨_, hS138, hk138⟩ hZ138 hown138 HR138 (Or.inl ⟨rfl, rfl⟩)
    · refine OEnd.of (fun t k => XS.ifNo X138.here hx rfl (hb hby at_56) rfl ((if0 _ _).trans (feq hc167).1) k) ?_
      show OEnd p e below _ (T138.setTop (mkF m 59 #[.val (.int p0), .val (.int p1), .val (.int p2), .val (.int p3), .val (.ref b106), .val (.ref b121), .val (.ref so51), .unset, .unset, .unset, .unset] []))
      refine OEnd.of (fun t k => XS.iconst X138.here hx rfl (hb hby at_59) k) ?_
      show OEnd p e below _ (T138.setTop (mkF m 60 #[.val (.int p0), .val (.int p1), .val (.int p2), .val (.int p3), .val (.ref b106), .val (.ref b121), .val (.ref so51), .unset, .unset, .unset, .unset] [(.int (1 : Int32))]))
      refine OEnd.of (fun t k => XS.goto X138.here hx rfl (pc0 := 60) (pc' := 64) rfl (hb hby at_60) (by decide) (by decide) k) ?_
      show OEnd p e below _ (T138.setTop (mkF m 64 #[.val (.int p0), .val (.int p1), .val (.int p2), .val (.int p3), .val (.ref b106), .val (.ref b121), .val (.ref so51), .unset, .unset, .unset, .unset] [(.int (1 : Int32))]))
      refine OEnd.of (fun t k => XS.istore X138.here hx rfl (hb hby at_64) rfl (l' := #[.val (.int p0), .val (.int p1), .val (.int p2), .val (.int p3), .val (.ref b106), .val (.ref b121), .val (.ref so51), .val (.int (1 : Int32)), .unset, .unset, .unset]) rfl k) ?_
      show OEnd p e below _ (T138.setTop (mkF m 66 #[.val (.int p0), .val (.int p1), .val (.int p2), .val (.int p3), .val (.ref b106), .val (.ref b121), .val (.ref so51), .val (.int (1 : Int32)), .unset, .unset, .unset] []))
      refine OEnd.of (fun t k => XS.aconstNull X138.here hx rfl (hb hby at_66) k) ?_
      show OEnd p e below _ (T138.setTop (mkF m 67 #[.val (.int p0), .val (.int p1), .val (.int p2), .val (.int p3), .val (.ref b106), .val (.ref b121), .val (.ref so51), .val (.int (1 : Int32)), .unset, .unset, .unset] [.null]))
      refine OEnd.of (fun t k => XS.astore X138.here hx rfl (hb hby at_67) rfl rfl (l' := #[.val (.int p0), .val (.int p1), .val (.int p2), .val (.int p3), .val (.ref b106), .val (.ref b121), .val (.ref so51), .val (.int (1 : Int32)), .val .null, .unset, .unset]) rfl k) ?_
      show OEnd p e below _ (T138.setTop (mkF m 69 #[.val (.int p0), .val (.int p1), .val (.int p2), .val (.int p3), .val (.ref b106), .val (.ref b121), .val (.ref so51), .val (.int (1 : Int32)), .val .null, .unset, .unset] []))
      refine OEnd.of (fun t k => XS.iload X138.here hx rfl (hb hby at_69) rfl k) ?_
      show OEnd p e below _ (T138.setTop (mkF m 71 #[.val (.int p0), .val (.int p1), .val (.int p2), .val (.int p3), .val (.ref b106), .val (.ref b121), .val (.ref so51), .val (.int (1 : Int32)), .val .null, .unset, .unset] [(.int (1 : Int32))]))
      refine OEnd.of (fun t k => XS.ifNo X138.here hx rfl (hb hby at_71) rfl ((if0 _ _).trans (feq (by decide : ¬ ((1 : Int32) = (0 : Int32)))).1) k) ?_
      show OEnd p e below _ (T138.setTop (mkF m 74 #[.val (.int p0), .val (.int p1), .val (.int p2), .val (.int p3), .val (.ref b106), .val (.ref b121), .val (.ref so51), .val (.int (1 : Int32)), .val .null, .unset, .unset] []))
      have K169 : Keep h121 h130 [b121] := ((Keep.refl h121 [b121]).trans Kq130 (allS (Or.inl (List.mem_of_getElem? (i := 0) rfl)) all0))
      have O170 : Ext Z.heap h130 := own_extKeep O129 K169 (allS f121 all0)
      obtain ⟨T168, h168, X168, e168, E168, A168, D168, -, st168⟩ := newO X138 hx hZ138 hown138 (hw _ (List.mem_of_getElem? (i := 33) rfl)) (hw _ (List.mem_of_getElem? (i := 34) rfl)) (hw _ (List.mem_of_getElem? (i := 35) rfl)) e138 (g := (mkF m 74 #[.val (.int p0), .val (.int p1), .val (.int p2), .val (.int p3), .val (.ref b106), .val (.ref b121), .val (.ref so51), .val (.int (1 : Int32)), .val .null, .unset, .unset] [])) rfl (hb hby at_74) (by decide) (by decide)
      obtain ⟨b168, g168⟩ : ∃ z, z = h130.size := ⟨_, rfl⟩
      rw [← g168] at A168 D168 st168
      refine OEnd.of st168 ?_
      have f168 : Z.heap.size ≤ b168 := Nat.le_trans O170.1 (Nat.le_of_eq g168.symm)
      have F171 : Fld Z h168 b168 "com/example/thorough_topology/thoroughtopology/model/IndexSet" "name" "Ljava/lang/String;" .null := D168 (Or.inr (hw _ (List.mem_of_getElem? (i := 63) rfl))) (ty := (.object "java/lang/String")) (by decide)
      have CR172 : CHr Z EL vm138 h130 vm138 h168 := CHr.ext E168 HR138.1
      have HR173 : CHr Z EL s.vm h0 vm138 h168 := HR138.trans CR172
      show OEnd p e below _ (T168.setTop (mkF m 77 #[.val (.int p0), .val (.int p1), .val (.int p2), .val (.int p3), .val (.ref b106), .val (.ref b121), .val (.ref so51), .val (.int (1 : Int32)), .val .null, .unset, .unset] [(.ref b168)]))
      refine OEnd.of (fun t k => XS.dup X168.here hx rfl (hb hby at_77) rfl rfl k) ?_
      show OEnd p e below _ (T168.setTop (mkF m 78 #[.val (.int p0), .val (.int p1), .val (.int p2), .val (.int p3), .val (.ref b106), .val (.ref b121), .val (.ref so51), .val (.int (1 : Int32)), .val .null, .unset, .unset] [(.ref b168), (.ref b168)]))
      refine OEnd.of (fun t k => XS.iloadN X168.here hx rfl (hb hby at_78) rfl k) ?_
      show OEnd p e below _ (T168.setTop (mkF m 79 #[.val (.int p0), .val (.int p1), .val (.int p2), .val (.int p3), .val (.ref b106), .val (.ref b121), .val (.ref so51), .val (.int (1 : Int32)), .val .null, .unset, .unset] [(.int p2), (.ref b168), (.ref b168)]))
      refine OEnd.of (fun t k => XS.sipush X168.here hx rfl (hb hby at_79) k) ?_
      show OEnd p e below _ (T168.setTop (mkF m 82 #[.val (.int p0), .val (.int p1), .val (.int p2), .val (.int p3), .val (.ref b106), .val (.ref b121), .val (.ref so51), .val (.int (1 : Int32)), .val .null, .unset, .unset] [(.int (255 : Int32)), (.int p2), (.ref b168), (.ref b168)]))
      refine OEnd.of (fun t k => XS.iand X168.here hx rfl (hb hby at_82) rfl k) ?_
      show OEnd p e below _ (T168.setTop (mkF m 83 #[.val (.int p0), .val (.int p1), .val (.int p2), .val (.int p3), .val (.ref b106), .val (.ref b121), .val (.ref so51), .val (.int (1 : Int32)), .val .null, .unset, .unset] [(.int (p2 &&& (255 : Int32))), (.ref b168), (.ref b168)]))
      refine OEnd.of (fun t k => XS.i2c X168.here hx rfl (hb hby at_83) rfl k) ?_
      show OEnd p e below _ (T168.setTop (mkF m 84 #[.val (.int p0), .val (.int p1), .val (.int p2), .val (.int p3), .val (.ref b106), .val (.ref b121), .val (.ref so51), .val (.int (1 : Int32)), .val .null, .unset, .unset] [(.int ((p2 &&& (255 : Int32)).toUInt32.toUInt16.toUInt32.toInt32)), (.ref b168), (.ref b168)]))
      generalize q_ch174 : ((p2 &&& (255 : Int32)).toUInt32.toUInt16.toUInt32.toInt32) = ch174
      have hch_ch174 : ¬ ch174 < 0 ∧ ¬ (255 : Int32) < ch174 := own_ch q_ch174
      have K176 : Keep h130 h168 [] := ((Keep.refl h130 []).ext E168)
      have O177 : Ext Z.heap h168 := own_extKeep O170 K176 all0
      obtain ⟨_, _, ⟨T175, L175, k175, n175⟩, -, X175, ⟨Lc175, hQ175, l175, y175, z175⟩, st175⟩ := Jvm.LawKit.callS X168 hx (y := (⟨"java/lang/String", "valueOf", "(C)Ljava/lang/String;"⟩ : MethodName)) hown138 (mvT hZ138 (hw _ (List.mem_of_getElem? (i := 36) rfl))) (mvT hZ138 (hw _ (List.mem_of_getElem? (i := 37) rfl))) (mvT hZ138 (hw _ (List.mem_of_getElem? (i := 3) rfl))) (mvT hZ138 (hw _ (List.mem_of_getElem? (i := 38) rfl))) (by decide) (backOf (W := 2) (rmVal l Z a0 hw zc k_BOOL k_INT S_CS hzc S_BOOL S_INT E_BOOL E_INT [] ch174 h168 O177 hch_ch174) hZ138 (hw _ (List.mem_of_getElem? (i := 38) rfl)) (hw _ (List.mem_of_getElem? (i := 3) rfl)) (by decide) (by decide)) (g := (mkF m 84 #[.val (.int p0), .val (.int p1), .val (.int p2), .val (.int p3), .val (.ref b106), .val (.ref b121), .val (.ref so51), .val (.int (1 : Int32)), .val .null, .unset, .unset] [(.int ch174), (.ref b168), (.ref b168)])) rfl (by rw [hml]; rfl) (argsL := [(.int ch174)]) (rest := [(.ref b168), (.ref b168)]) (lenOf pd_28C29Ljava2flang2fString3b rfl) rfl (by show 2 * 0 + _ ≤ _; exact Nat.le_of_eq rfl) (hb hby at_84) (fun _ _ => ⟨rfl, e168, (by decide : 4 + 2 ≤ _), (by decide : 9 + 5 ≤ _)⟩)
      dsimp only [Pt.U, Pt.locs, Pt.cells, Pt.slots] at X175 l175 y175 z175 st175 hQ175
      subst l175 y175 z175
      obtain ⟨h175, e175⟩ : ∃ z, T175.heap = z := ⟨_, rfl⟩
      rw [e175] at hQ175
      obtain ⟨r_178, rfl, Nq175, Kq175, S_179⟩ := hQ175
      have N180 := Fr.app N138 Nq175
      have CR181 : CHr Z EL vm138 h168 vm138 h175 := CHr.keep Kq175 all0 HR173.1
      have HR182 : CHr Z EL s.vm h0 vm138 h175 := HR173.trans CR181
      refine OEnd.of st175 ?_
      show OEnd p e below _ (T175.setTop (mkF m 87 #[.val (.int p0), .val (.int p1), .val (.int p2), .val (.int p3), .val (.ref b106), .val (.ref b121), .val (.ref so51), .val (.int (1 : Int32)), .val .null, .unset, .unset] [(.ref r_178), (.ref b168), (.ref b168)]))
      have Er := (S_179).1
      have K184 : Keep h168 h175 [] := ((Keep.refl h168 []).trans Kq175 all0)
      have O185 : Ext Z.heap h175 := own_extKeep O177 K184 all0
      obtain ⟨_, vq183, ⟨T183, L183, k183, n183⟩, -, X183, S183, G183, ⟨Lc183, hQ183, l183, y183, z183, C183⟩, st183⟩ := X175.specialBackS hx (y := (⟨"com/example/thorough_topology/thoroughtopology/model/IndexSet", "<init>", "(Ljava/lang/String;)V"⟩ : MethodName)) rfl hown138 (mvT hZ138 (hw _ (List.mem_of_getElem? (i := 50) rfl))) (mvT hZ138 (hw _ (List.mem_of_getElem? (i := 51) rfl))) (mvT hZ138 (hw _ (List.mem_of_getElem? (i := 52) rfl))) (by decide) (backOfSH (W := 1) (rmIx l Z a0 hw zc k_BOOL k_INT S_CS hzc S_BOOL S_INT E_BOOL E_INT hEL [] b168 r_178 h175 O185 (A168.keep K184) (F171.keep K184 nin0) f168 Er) hZ138 (hw _ (List.mem_of_getElem? (i := 52) rfl)) (hw _ (List.mem_of_getElem? (i := 35) rfl)) (by decide) (by decide) hEL HR182.1) (g := (mkF m 87 #[.val (.int p0), .val (.int p1), .val (.int p2), .val (.int p3), .val (.ref b106), .val (.ref b121), .val (.ref so51), .val (.int (1 : Int32)), .val .null, .unset, .unset] [(.ref r_178), (.ref b168), (.ref b168)])) rfl (by rw [hml]; rfl) (Steps.refl _) (a := b168) (argsL := [(.ref r_178)]) (rest := [(.ref b168)]) (lenOf pd_28Ljava2flang2fString3b29V rfl) rfl (by show 2 * 0 + _ ≤ _; exact Nat.le_of_eq rfl) (hb hby at_87) (fun _ _ => ⟨rfl, e175, (by decide : 6 + 2 ≤ _), (by decide : 14 + 20 ≤ _)⟩)
      have K186 : Keep h130 h175 [] := (K176.trans Kq175 all0)
      dsimp only [Pt.U, Pt.locs, Pt.cells, Pt.slots] at X183 l183 y183 z183 st183 hQ183 S183 G183 C183
      subst l183 y183 z183
      obtain ⟨h183, e183⟩ : ∃ z, T183.heap = z := ⟨_, rfl⟩
      rw [e183] at hQ183 C183
      obtain ⟨rfl, Nq183, Kq183, E_187⟩ := hQ183
      have N188 := Fr.app N180 Nq183
      obtain ⟨X183, S183, hZ183, hown183⟩ := rebS hS138 (by rw [e175]; exact (Nat.le_trans hk138 K186.1)) X183 S183 G183 hZ138 hown138
      rw [e183] at S183
      have hk183 : h183.size ≤ h183.size := Nat.le_refl _
      have CR189 : CHr Z EL vm138 h175 T183.vm h183 := C183
      have HR190 : CHr Z EL s.vm h0 T183.vm h183 := HR182.trans CR189
      refine OEnd.of (fun t k => st183.trans k) ?_
      show OEnd p e below _ (T183.setTop (mkF m 90 #[.val (.int p0), .val (.int p1), .val (.int p2), .val (.int p3), .val (.ref b106), .val (.ref b121), .val (.ref so51), .val (.int (1 : Int32)), .val .null, .unset, .unset] [(.ref b168)]))
      refine OEnd.of (fun t k => XS.astore X183.here hx rfl (hb hby at_90) rfl rfl (l' := #[.val (.int p0), .val (.int p1), .val (.int p2), .val (.int p3), .val (.ref b106), .val (.ref b121), .val (.ref so51), .val (.int (1 : Int32)), .val (.ref b168), .unset, .unset]) rfl k) ?_
      show OEnd p e below _ (T183.setTop (mkF m 92 #[.val (.int p0), .val (.int p1), .val (.int p2), .val (.int p3), .val (.ref b106), .val (.ref b121), .val (.ref so51), .val (.int (1 : Int32)), .val (.ref b168), .unset, .unset] []))
      have K191 : Keep h130 h183 [] := (K186.trans Kq183 (allS (Or.inr (Nat.le_of_eq g168.symm)) all0))
      exact J139 _ T183 h183 _ (1 : Int32) (.ref b168) rfl (X183.mono (by decide) (by decide)) e183 N188 K191 ⟨_, S183, hk183⟩ hZ183 hown183 HR190 (Or.inr ⟨nofun, rfl⟩)
  by_cases hc192 : (p3 &&& (2 : Int32)) = (0 : Int32)
  · refine OEnd.of (fun t k => XS.ifYes X130.here hx rfl (pc0 := 39) (pc' := 48) rfl (hb hby at_39) rfl ((if0 _ _).trans (teq hc192).1) (by decide) (by decide) k) ?_
    show OEnd p e below _ (T130.setTop (mkF m 48 #[.val (.int p0), .val (.int p1), .val (.int p2), .val (.int p3), .val (.ref b106), .val (.ref b121), .unset, .unset, .unset, .unset, .unset] []))
    have K194 : Keep h121 h130 [b121] := ((Keep.refl h121 [b121]).trans Kq130 (allS (Or.inl (List.mem_of_getElem? (i := 0) rfl)) all0))
    have O195 : Ext Z.heap h130 := own_extKeep O129 K194 (allS f121 all0)
    obtain ⟨T193, X193, e193, st193⟩ := getS2 X130 hx hZ hown (host := "") (Or.inl (hw _ (List.mem_of_getElem? (i := 30) rfl))) Via.refl e130 (Sta.ext O195 S_BOOL) (g := (mkF m 48 #[.val (.int p0), .val (.int p1), .val (.int p2), .val (.int p3), .val (.ref b106), .val (.ref b121), .unset, .unset, .unset, .unset, .unset] [])) rfl (hb hby at_48)
    refine OEnd.of st193 ?_
    show OEnd p e below _ (T193.setTop (mkF m 51 #[.val (.int p0), .val (.int p1), .val (.int p2), .val (.int p3), .val (.ref b106), .val (.ref b121), .unset, .unset, .unset, .unset, .unset] [(.ref k_BOOL)]))
    have K196 : Keep h0 h130 [] := ((K122.ext E121).trans Kq130 (allS (Or.inr (Nat.le_trans K122.1 (Nat.le_of_eq g121.symm))) all0))
    exact J138 _ T193 _ k_BOOL X193 e193 N133 ⟨_, hS0, (Nat.le_trans hk0 K196.1)⟩ hZ hown HR135 (Exa.ext O195 E_BOOL)
  · refine OEnd.of (fun t k => XS.ifNo X130.here hx rfl (hb hby at_39) rfl ((if0 _ _).trans (feq hc192).1) k) ?_
    show OEnd p e below _ (T130.setTop (mkF m 42 #[.val (.int p0), .val (.int p1), .val (.int p2), .val (.int p3), .val (.ref b106), .val (.ref b121), .unset, .unset, .unset, .unset, .unset] []))
    have K198 : Keep h121 h130 [b121] := ((Keep.refl h121 [b121]).trans Kq130 (allS (Or.inl (List.mem_of_getElem? (i := 0) rfl)) all0))
    have O199 : Ext Z.heap h130 := own_extKeep O129 K198 (allS f121 all0)
    obtain ⟨T197, X197, e197, st197⟩ := getS2 X130 hx hZ hown (host := "") (Or.inl (hw _ (List.mem_of_getElem? (i := 93) rfl))) Via.refl e130 (Sta.ext O199 S_INT) (g := (mkF m 42 #[.val (.int p0), .val (.int p1), .val (.int p2), .val (.int p3), .val (.ref b106), .val (.ref b121), .unset, .unset, .unset, .unset, .unset] [])) rfl (hb hby at_42)
    refine OEnd.of st197 ?_
    show OEnd p e below _ (T197.setTop (mkF m 45 #[.val (.int p0), .val (.int p1), .val (.int p2), .val (.int p3), .val (.ref b106), .val (.ref b121), .unset, .unset, .unset, .unset, .unset] [(.ref k_INT)]))
    refine OEnd.of (fun t k => XS.goto X197.here hx rfl (pc0 := 45) (pc' := 51) rfl (hb hby at_45) (by decide) (by decide) k) ?_
    show OEnd p e below _ (T197.setTop (mkF m 51 #[.val (.int p0), .val (.int p1), .val (.int p2), .val (.int p3), .val (.ref b106), .val (.ref b121), .unset, .unset, .unset, .unset, .unset] [(.ref k_INT)]))
    have K200 : Keep h0 h130 [] := ((K122.ext E121).trans Kq130 (allS (Or.inr (Nat.le_trans K122.1 (Nat.le_of_eq g121.symm))) all0))
    exact J138 _ T197 _ k_INT X197 e197 N133 ⟨_, hS0, (Nat.le_trans hk0 K200.1)⟩ hZ hown HR135 (Exa.ext O199 E_INT)
set_option maxRecDepth 65536 in
set_option maxHeartbeats 40000000 in
theorem comes_1 {Post : Tables → Env → Array Value → State → Outcome → State → Prop} (hpost : ∀ tb e args s v u, (limb_1_1.after args s (.returned v) u = true ∧ limb_1_2.after args s (.returned v) u = true ∧ True) → ReturnedEndW s (.returned v) u (Jvm.fieldLocs frame_1_writes args s ++ Jvm.arrayLocs frame_1_arrays args s ++ Jvm.staticLocs frame_1_statics s) 32 3200 → Post tb e args s (.returned v) u) :
    ArmFor flags0 classFile x code maxLocals ret World_1 tables_1 room_1 Calls_1 rest_1 Pre_1 Post := by
  intro l hfl _ _ p e ha hc hk s m args below hf hA hF happ hP
  obtain ⟨hcalls, hrest, hpre⟩ := hP
  obtain ⟨-, -, -, hnamed, -, -, -, hat⟩ := (Spec.applies_iff hf).mp happ
  obtain ⟨hg, hn⟩ := and_e (Cond.before_iff.mp (show (Jvm.Cond.and given_1 narrow_1).before args s = true from hpre))
  obtain ⟨hcnt, hg0⟩ := and_e hg
  obtain ⟨ga0, hg1⟩ := and_e hg0
  obtain ⟨ga1, hg2⟩ := and_e hg1
  obtain ⟨ga2, hg3⟩ := and_e hg2
  have ga3 := hg3
  obtain ⟨w0, w1, w2, w3, rfl⟩ : ∃ w0 w1 w2 w3 : Value, args = #[w0, w1, w2, w3] := by
    have hs : args.size = 4 := by simpa [Cond.value, given_1] using hcnt
    obtain ⟨L⟩ := args
    match L, hs with
    | [w0, w1, w2, w3], _ => exact ⟨w0, w1, w2, w3, rfl⟩
  have hw := fun d (hd : d ∈ tables_1) => atoms_spec (ws := Jvm.Cond.code x code maxLocals ret :: tables_1) hat d (List.mem_cons_of_mem _ hd)
  have hfit : Fit s := fun {y c} hc i hi => by
    obtain ⟨ha, rfl⟩ := Array.getElem?_eq_some_iff.mp hc
    have q := List.all_eq_true.mp ((Array.all_eq_true_iff_forall_mem.mp hF) _ (Array.getElem_mem ha)) i (List.mem_range.mpr hi)
    simpa [Array.getElem?_eq_getElem hi] using q
  obtain ⟨hsets, hown0⟩ := atoms_of _ (rest_1_c_eq ▸ (show rest_1_c.before _ s = true from hrest))
  obtain ⟨i0, ei0⟩ := is_v ga0
  obtain rfl : w0 = (.int i0) := Option.some.inj ei0
  obtain ⟨i1, ei1⟩ := is_v ga1
  obtain rfl : w1 = (.int i1) := Option.some.inj ei1
  obtain ⟨i2, ei2⟩ := is_v ga2
  obtain rfl : w2 = (.int i2) := Option.some.inj ei2
  obtain ⟨i3, ei3⟩ := is_v ga3
  obtain rfl : w3 = (.int i3) := Option.some.inj ei3
  have n3 := not_v (Cond.before_iff.mp (hsets _ (List.mem_of_getElem? (i := 2) rfl)))
  obtain ⟨zc, ezc⟩ := is_v (Cond.before_iff.mp (hsets _ (List.mem_of_getElem? (i := 1) rfl)))
  have S_CS : Sta s s.heap "java/lang/String" "COMPACT_STRINGS" "Z" (.int zc) := Sta.start ezc (Or.inl (hsets _ (List.mem_of_getElem? (i := 0) rfl)))
  have hzc : ¬ zc = (0 : Int32) := gotF (Cond.eq_ints ezc (Term.int_eval (0))) n3
  obtain ⟨na0, nb0⟩ := and_e hn
  obtain ⟨k_BOOL, e_k_BOOL⟩ := exa_v na0
  have S_BOOL : Sta s s.heap "com/example/thorough_topology/thoroughtopology/model/Sort" "BOOL" "Lcom/example/thorough_topology/thoroughtopology/model/Sort;" (.ref k_BOOL) := Sta.start e_k_BOOL (Or.inr ⟨(hw _ (List.mem_of_getElem? (i := 31) rfl)), (hw _ (List.mem_of_getElem? (i := 32) rfl))⟩)
  obtain ⟨k_INT, e_k_INT⟩ := exa_v nb0
  have S_INT : Sta s s.heap "com/example/thorough_topology/thoroughtopology/model/Sort" "INT" "Lcom/example/thorough_topology/thoroughtopology/model/Sort;" (.ref k_INT) := Sta.start e_k_INT (Or.inr ⟨(hw _ (List.mem_of_getElem? (i := 31) rfl)), (hw _ (List.mem_of_getElem? (i := 94) rfl))⟩)
  have E_BOOL := Exa.start e_k_BOOL na0
  have E_INT := Exa.start e_k_INT nb0
  have hEL : EW s #[(.int i0), (.int i1), (.int i2), (.int i3)] EL := EW.nil
  have hCH : CHv s EL s.vm s.heap := CHv.start hEL (fun p hp => nomatch hp) (hsets _ (List.mem_of_getElem? (i := 2) rfl)) (hw _ (List.mem_of_getElem? (i := 19) rfl)) (hw _ (List.mem_of_getElem? (i := 2) rfl))
  obtain ⟨n, o, h1, h2, h3, _, L, rfl, ⟨rfl, N, -⟩, -, hq⟩ := rm0 l s _ hw zc k_BOOL k_INT S_CS hzc S_BOOL S_INT E_BOOL E_INT hEL tables_1 i0 i1 i2 i3  s.heap ⟨Nat.le_refl _, fun _ _ q => q⟩  p e ha hc hk s m _ below hf ((Spec.applies_iff_loose hf).mp happ).1 ⟨rfl, State.Warmed39.refl s, rfl, hCH⟩ trivial
  refine ⟨n, _, h1, h2, h3, hpost _ _ _ _ _ _ ⟨Cond.after_iff.mpr rfl, Cond.after_iff.mpr (eq_i res_at (Term.int_eval (1)) rfl), trivial⟩ ⟨hq.1, hq.2.1, hq.2.2.1, (hq.2.2.2.sift fun y hy => Or.inr (N y hy)).mono (by decide) (by decide)⟩⟩
theorem main_1_1 : Claimed_1_1 := comes_1 fun _ _ _ _ _ _ h hF => ⟨h.1, hF⟩
theorem main_1_2 : Claimed_1_2 := comes_1 fun _ _ _ _ _ _ h hF => ⟨h.2.1, hF⟩
end Jvm.Pilot.@@N@@
namespace Jvm.Pilot.@@N@@
open Jvm Jvm.ClassFile Sem Op Lib Jvm.Free Jvm.Stand Jvm.Pilot.@@N@@.Jvm.D
/-! MADE BY PROGRAM (witnessworld.py) out of the Statement's table words and the real class files: 24 classes; the members and pool entries that the words name. The judged class is class 1, her method 1. -/
namespace start1
open Jvm.ClassFile
def u (s : String) : CpInfo := .utf8 (stringToUtf16 s)
/-- a pool by its gaps: so many unusable entries, then the entry; so many at the end -/
def gap : Nat → List CpInfo → List CpInfo
  | 0, r => r
  | n + 1, r => .unusable :: gap n r
def poolList (es : List (Nat × CpInfo)) (last : Nat) : List CpInfo := es.foldr (fun e r => gap e.1 (e.2 :: r)) (gap last [])
def pool (es : List (Nat × CpInfo)) (last : Nat) : Array CpInfo := ⟨poolList es last⟩
def fileOf (pool : Array CpInfo) (this : Nat) (attrs : Array Attribute := #[]) (ms : Array MethodInfo := #[]) (fl : Nat := 33) (sup : Nat := 0) (ifs : Array Nat := #[]) (fds : Array FieldInfo := #[]) : ClassFile where
  minorVersion := 0
  majorVersion := 65
  constantPool := pool
  accessFlags := fl
  thisClass := this
  superClass := sup
  interfaces := ifs
  fields := fds
  methods := ms
  attributes := attrs
def plain (name : String) (sup : Option ClassId) : Class where
  name := name
  kind := .ordinary
  loader := none
  accessFlags := 33
  super := sup
  interfaces := #[]
  cf := none
  fields := #[]
  methods := #[]
  instanceTypes := #[]
  staticTypes := #[]
  resolved := #[]
  callSites := []
  init := .initialized
  statics := none
  mirror := none

def pool0 : Array CpInfo := pool [(5, u "<init>"), (0, u "()V"), (1, .class_ 10), (1, u "java/lang/Object")] 113

def k0c0 : Code := { maxStack := 0, maxLocals := 1, code := object_method_1_code, exceptionTable := #[], attributes := #[] }
def k0m0 : Method := { name := "<init>", desc := "()V", sig := { parameters := [], returnType := none }, accessFlags := 1, code := some k0c0 }
/-- java/lang/Object -/
def k0 : Class := { plain "java/lang/Object" none with
  accessFlags := 33
  interfaces := #[]
  cf := some (fileOf pool0 8 #[] #[{ accessFlags := 1, nameIndex := 5, descriptorIndex := 6, attributes := #[] }] 33 0 #[] #[])
  fields := #[]
  methods := #[k0m0]
  instanceTypes := #[]
  staticTypes := #[]
  resolved := Array.replicate 124 none
  statics := none }

def pool1 : Array CpInfo := pool [(2, .class_ 4), (1, u "java/lang/Object"), (0, u "<init>"), (0, u "()V"), (0, .class_ 8), (0, u "java/lang/String"), (0, .methodref 7 10), (0, .nameAndType 5 11), (0, u "([C)V"), (0, .fieldref 13 14), (0, .class_ 15), (0, .nameAndType 16 17), (0, u "com/example/thorough_topology/thoroughtopology/model/Sort"), (0, u "INT"), (0, u "Lcom/example/thorough_topology/thoroughtopology/model/Sort;"), (0, .fieldref 13 19), (0, .nameAndType 20 17), (0, u "BOOL"), (0, .class_ 22), (0, u "com/example/thorough_topology/thoroughtopology/model/IndexSet"), (0, .methodref 7 24), (0, .nameAndType 25 26), (0, u "valueOf"), (0, u "(C)Ljava/lang/String;"), (0, .methodref 21 28), (0, .nameAndType 5 29), (0, u "(Ljava/lang/String;)V"), (0, .class_ 31), (0, u "com/example/thorough_topology/thoroughtopology/model/Parameter"), (0, .methodref 30 33), (0, .nameAndType 5 34), (0, u "(Ljava/lang/String;Lcom/example/thorough_topology/thoroughtopology/model/Sort;Lcom/example/thorough_topology/thoroughtopology/model/IndexSet;)V"), (0, .methodref 30 36), (0, .nameAndType 37 38), (0, u "isIndexed"), (0, u "()Z"), (0, .methodref 30 40), (0, .nameAndType 41 42), (0, u "indexSet"), (0, u "()Lcom/example/thorough_topology/thoroughtopology/model/IndexSet;"), (0, .class_ 44), (0, u "com/example/thorough_topology/thoroughtopology/model/ParameterIsIndexedPinLaw"), (2, u "law"), (0, u "(IIII)Z")] 5

def k1m0 : Method := { name := "<init>", desc := "()V", sig := { parameters := [], returnType := none }, accessFlags := 1, code := none }
def k1c1 : Code := { maxStack := 5, maxLocals := 11, code := code, exceptionTable := #[], attributes := #[] }
def k1m1 : Method := { name := "law", desc := "(IIII)Z", sig := { parameters := [.int, .int, .int, .int], returnType := some .boolean }, accessFlags := 9, code := some k1c1 }
/-- com/example/thorough_topology/thoroughtopology/model/ParameterIsIndexedPinLaw -/
def k1 : Class := { plain "com/example/thorough_topology/thoroughtopology/model/ParameterIsIndexedPinLaw" (some 0) with
  accessFlags := 49
  interfaces := #[]
  cf := some (fileOf pool1 43 #[] #[{ accessFlags := 1, nameIndex := 5, descriptorIndex := 6, attributes := #[] }, { accessFlags := 9, nameIndex := 47, descriptorIndex := 48, attributes := #[] }] 49 2 #[] #[])
  fields := #[]
  methods := #[k1m0, k1m1]
  instanceTypes := #[]
  staticTypes := #[]
  resolved := Array.replicate 54 none
  statics := none }

def pool2 : Array CpInfo := pool [(1, .class_ 2), (0, u "java/io/Serializable"), (0, .class_ 4), (0, u "java/lang/Object")] 2

/-- java/io/Serializable -/
def k2 : Class := { plain "java/io/Serializable" (some 0) with
  accessFlags := 1537
  interfaces := #[]
  cf := some (fileOf pool2 1 #[] #[] 1537 3 #[] #[])
  fields := #[]
  methods := #[]
  instanceTypes := #[]
  staticTypes := #[]
  resolved := Array.replicate 7 none
  statics := none }

def pool3 : Array CpInfo := pool [(1, .class_ 2), (0, u "java/lang/Comparable"), (0, .class_ 4), (0, u "java/lang/Object")] 7

/-- java/lang/Comparable -/
def k3 : Class := { plain "java/lang/Comparable" (some 0) with
  accessFlags := 1537
  interfaces := #[]
  cf := some (fileOf pool3 1 #[] #[] 1537 3 #[] #[])
  fields := #[]
  methods := #[]
  instanceTypes := #[]
  staticTypes := #[]
  resolved := Array.replicate 12 none
  statics := none }

def pool4 : Array CpInfo := pool [(2, .class_ 4), (1, u "java/lang/CharSequence"), (42, .class_ 48), (0, u "java/lang/CharSequence$1CodePointIterator"), (10, .class_ 60), (0, u "java/lang/CharSequence$1CharIterator"), (5, .class_ 67), (0, u "java/lang/Object")] 63

/-- java/lang/CharSequence -/
def k4 : Class := { plain "java/lang/CharSequence" (some 0) with
  accessFlags := 1537
  interfaces := #[]
  cf := some (fileOf pool4 2 #[.nestMembers #[47, 59]] #[] 1537 66 #[] #[])
  fields := #[]
  methods := #[]
  instanceTypes := #[]
  staticTypes := #[]
  resolved := Array.replicate 131 none
  statics := none }

def pool5 : Array CpInfo := pool [(1, .class_ 2), (0, u "java/lang/constant/Constable"), (0, .class_ 4), (0, u "java/lang/Object")] 6

/-- java/lang/constant/Constable -/
def k5 : Class := { plain "java/lang/constant/Constable" (some 0) with
  accessFlags := 1537
  interfaces := #[]
  cf := some (fileOf pool5 1 #[] #[] 1537 3 #[] #[])
  fields := #[]
  methods := #[]
  instanceTypes := #[]
  staticTypes := #[]
  resolved := Array.replicate 11 none
  statics := none }

def pool6 : Array CpInfo := pool [(1, .class_ 2), (0, u "java/lang/constant/ConstantDesc"), (0, .class_ 4), (0, u "java/lang/Object")] 32

/-- java/lang/constant/ConstantDesc -/
def k6 : Class := { plain "java/lang/constant/ConstantDesc" (some 0) with
  accessFlags := 1537
  interfaces := #[]
  cf := some (fileOf pool6 1 #[] #[] 1537 3 #[] #[])
  fields := #[]
  methods := #[]
  instanceTypes := #[]
  staticTypes := #[]
  resolved := Array.replicate 37 none
  statics := none }

def pool7 : Array CpInfo := pool [(1, .methodref 2 3), (0, .class_ 4), (0, .nameAndType 5 6), (0, u "java/lang/Object"), (0, u "<init>"), (0, u "()V"), (2, .fieldref 10 11), (0, .class_ 12), (0, .nameAndType 13 14), (0, u "java/lang/String"), (0, u "value"), (0, u "[B"), (0, .fieldref 10 16), (0, .nameAndType 17 18), (0, u "coder"), (0, u "B"), (2, u "hash"), (0, u "I"), (2, u "hashIsZero"), (0, u "Z"), (0, .methodref 10 28), (0, .nameAndType 5 29), (0, u "([CIILjava/lang/Void;)V"), (8, .fieldref 10 39), (0, .nameAndType 40 26), (0, u "COMPACT_STRINGS"), (1, .class_ 44), (1, u "java/lang/StringUTF16"), (0, u "compress"), (1, .methodref 42 48), (0, .nameAndType 49 50), (0, u "coderFromArrayLen"), (0, u "([BI)B"), (2, u "toBytes"), (53, .class_ 109), (1, u "java/lang/StringLatin1"), (67, .methodref 42 178), (0, .nameAndType 45 179), (0, u "([CII)[B"), (29, .methodref 10 210), (0, .nameAndType 5 211), (0, u "([BB)V"), (157, u "(C)Z"), (205, .class_ 576), (0, u "java/lang/CharSequence"), (22, u "CASE_INSENSITIVE_ORDER"), (0, u "Ljava/util/Comparator;"), (181, u "valueOf"), (0, u "(C)Ljava/lang/String;"), (226, u "([C)V"), (4, .methodref 107 1016), (0, .nameAndType 1017 369), (0, u "canEncode"), (0, .methodref 107 1019), (0, .nameAndType 53 1020), (0, u "(C)[B"), (80, u "serialPersistentFields"), (0, u "[Ljava/io/ObjectStreamField;"), (0, .class_ 1104), (0, u "java/lang/String$CaseInsensitiveComparator"), (1, .class_ 1107), (0, u "java/io/Serializable"), (0, .class_ 1109), (0, u "java/lang/Comparable"), (0, .class_ 1111), (0, u "java/lang/constant/Constable"), (0, .class_ 1113), (0, u "java/lang/constant/ConstantDesc"), (2, u "serialVersionUID"), (0, u "J"), (3, u "REPL"), (0, u "C"), (2, u "LATIN1"), (1, u "UTF16")] 323

def k7m0 : Method := { name := "<init>", desc := "()V", sig := { parameters := [], returnType := none }, accessFlags := 1, code := none }
def k7c1 : Code := { maxStack := 5, maxLocals := 2, code := jdk_42_method_3_code, exceptionTable := #[], attributes := #[] }
def k7m1 : Method := { name := "<init>", desc := "([C)V", sig := { parameters := [(.array .char)], returnType := none }, accessFlags := 1, code := some k7c1 }
def k7c2 : Code := { maxStack := 4, maxLocals := 1, code := jdk_42_method_139_code, exceptionTable := #[], attributes := #[] }
def k7m2 : Method := { name := "valueOf", desc := "(C)Ljava/lang/String;", sig := { parameters := [.char], returnType := some (.object "java/lang/String") }, accessFlags := 9, code := some k7c2 }
def k7c3 : Code := { maxStack := 4, maxLocals := 6, code := jdk_42_method_149_code, exceptionTable := #[], attributes := #[] }
def k7m3 : Method := { name := "<init>", desc := "([CIILjava/lang/Void;)V", sig := { parameters := [(.array .char), .int, .int, (.object "java/lang/Void")], returnType := none }, accessFlags := 2, code := some k7c3 }
def k7c4 : Code := { maxStack := 2, maxLocals := 3, code := jdk_42_method_151_code, exceptionTable := #[], attributes := #[] }
def k7m4 : Method := { name := "<init>", desc := "([BB)V", sig := { parameters := [(.array .byte), .byte], returnType := none }, accessFlags := 0, code := some k7c4 }
/-- java/lang/String -/
def k7 : Class := { plain "java/lang/String" (some 0) with
  accessFlags := 49
  interfaces := #[2, 3, 4, 5, 6]
  cf := some (fileOf pool7 10 #[.nestMembers #[1103]] #[{ accessFlags := 1, nameIndex := 5, descriptorIndex := 6, attributes := #[] }, { accessFlags := 1, nameIndex := 5, descriptorIndex := 1010, attributes := #[] }, { accessFlags := 9, nameIndex := 782, descriptorIndex := 783, attributes := #[] }, { accessFlags := 2, nameIndex := 5, descriptorIndex := 29, attributes := #[] }, { accessFlags := 0, nameIndex := 5, descriptorIndex := 211, attributes := #[] }] 49 2 #[1106, 1108, 575, 1110, 1112] #[{ accessFlags := 18, nameIndex := 13, descriptorIndex := 14, attributes := #[] }, { accessFlags := 18, nameIndex := 17, descriptorIndex := 18, attributes := #[] }, { accessFlags := 2, nameIndex := 21, descriptorIndex := 22, attributes := #[] }, { accessFlags := 2, nameIndex := 25, descriptorIndex := 26, attributes := #[] }, { accessFlags := 26, nameIndex := 1116, descriptorIndex := 1117, attributes := #[] }, { accessFlags := 24, nameIndex := 40, descriptorIndex := 26, attributes := #[] }, { accessFlags := 26, nameIndex := 1101, descriptorIndex := 1102, attributes := #[] }, { accessFlags := 26, nameIndex := 1121, descriptorIndex := 1122, attributes := #[] }, { accessFlags := 25, nameIndex := 599, descriptorIndex := 600, attributes := #[] }, { accessFlags := 24, nameIndex := 1125, descriptorIndex := 18, attributes := #[] }, { accessFlags := 24, nameIndex := 1127, descriptorIndex := 18, attributes := #[] }])
  fields := #[{ name := "value", type := (.array .byte), accessFlags := 18, slot := 0, constantValue := 0 }, { name := "coder", type := .byte, accessFlags := 18, slot := 1, constantValue := 0 }, { name := "hash", type := .int, accessFlags := 2, slot := 2, constantValue := 0 }, { name := "hashIsZero", type := .boolean, accessFlags := 2, slot := 3, constantValue := 0 }, { name := "serialVersionUID", type := .long, accessFlags := 26, slot := 0, constantValue := 0 }, { name := "COMPACT_STRINGS", type := .boolean, accessFlags := 24, slot := 1, constantValue := 0 }, { name := "serialPersistentFields", type := (.array (.object "java/io/ObjectStreamField")), accessFlags := 26, slot := 2, constantValue := 0 }, { name := "REPL", type := .char, accessFlags := 26, slot := 3, constantValue := 0 }, { name := "CASE_INSENSITIVE_ORDER", type := (.object "java/util/Comparator"), accessFlags := 25, slot := 4, constantValue := 0 }, { name := "LATIN1", type := .byte, accessFlags := 24, slot := 5, constantValue := 0 }, { name := "UTF16", type := .byte, accessFlags := 24, slot := 6, constantValue := 0 }]
  methods := #[k7m0, k7m1, k7m2, k7m3, k7m4]
  instanceTypes := #[(.array .byte), .byte, .int, .boolean]
  staticTypes := #[.long, .boolean, (.array (.object "java/io/ObjectStreamField")), .char, (.object "java/util/Comparator"), .byte, .byte]
  resolved := Array.replicate 1451 none
  statics := some 0 }

def pool8 : Array CpInfo := pool [(6, .class_ 8), (1, u "java/lang/Object"), (0, u "<init>"), (0, u "()V"), (1, .class_ 14), (1, u "java/lang/StringUTF16"), (31, u "$assertionsDisabled"), (0, u "Z"), (13, u "HI_BYTE_SHIFT"), (0, u "I"), (2, u "LO_BYTE_SHIFT"), (49, .methodref 12 116), (0, .nameAndType 117 118), (0, u "compress"), (0, u "([CI[BII)I"), (3, u "([CII)[B"), (138, u "coderFromArrayLen"), (0, u "([BI)B"), (106, .class_ 371), (1, u "java/lang/StringUTF16$LinesSpliterator"), (58, u "MAX_LENGTH"), (196, .class_ 628), (0, u "java/lang/StringUTF16$CodePointsSpliterator"), (0, .class_ 630), (0, u "java/lang/StringUTF16$CharsSpliterator")] 4

def k8m0 : Method := { name := "<init>", desc := "()V", sig := { parameters := [], returnType := none }, accessFlags := 0, code := none }
def k8c1 : Code := { maxStack := 2, maxLocals := 2, code := jdk_52_method_15_code, exceptionTable := #[], attributes := #[] }
def k8m1 : Method := { name := "coderFromArrayLen", desc := "([BI)B", sig := { parameters := [(.array .byte), .int], returnType := some .byte }, accessFlags := 8, code := some k8c1 }
def k8c2 : Code := { maxStack := 5, maxLocals := 6, code := jdk_52_method_16_code, exceptionTable := #[], attributes := #[] }
def k8m2 : Method := { name := "compress", desc := "([CII)[B", sig := { parameters := [(.array .char), .int, .int], returnType := some (.array .byte) }, accessFlags := 9, code := some k8c2 }
def k8c3 : Code := { maxStack := 3, maxLocals := 7, code := jdk_52_method_21_code, exceptionTable := #[], attributes := #[] }
def k8m3 : Method := { name := "compress", desc := "([CI[BII)I", sig := { parameters := [(.array .char), .int, (.array .byte), .int, .int], returnType := some .int }, accessFlags := 9, code := some k8c3 }
/-- java/lang/StringUTF16 -/
def k8 : Class := { plain "java/lang/StringUTF16" (some 0) with
  accessFlags := 48
  interfaces := #[]
  cf := some (fileOf pool8 12 #[.nestMembers #[627, 629, 369]] #[{ accessFlags := 0, nameIndex := 9, descriptorIndex := 10, attributes := #[] }, { accessFlags := 8, nameIndex := 261, descriptorIndex := 262, attributes := #[] }, { accessFlags := 9, nameIndex := 117, descriptorIndex := 122, attributes := #[] }, { accessFlags := 9, nameIndex := 117, descriptorIndex := 118, attributes := #[] }] 48 6 #[] #[{ accessFlags := 26, nameIndex := 61, descriptorIndex := 62, attributes := #[] }, { accessFlags := 26, nameIndex := 65, descriptorIndex := 62, attributes := #[] }, { accessFlags := 24, nameIndex := 430, descriptorIndex := 62, attributes := #[] }, { accessFlags := 4120, nameIndex := 46, descriptorIndex := 47, attributes := #[] }])
  fields := #[{ name := "HI_BYTE_SHIFT", type := .int, accessFlags := 26, slot := 0, constantValue := 0 }, { name := "LO_BYTE_SHIFT", type := .int, accessFlags := 26, slot := 1, constantValue := 0 }, { name := "MAX_LENGTH", type := .int, accessFlags := 24, slot := 2, constantValue := 0 }, { name := "$assertionsDisabled", type := .boolean, accessFlags := 4120, slot := 3, constantValue := 0 }]
  methods := #[k8m0, k8m1, k8m2, k8m3]
  instanceTypes := #[]
  staticTypes := #[.int, .int, .int, .boolean]
  resolved := Array.replicate 635 none
  statics := none }

def pool9 : Array CpInfo := pool [(2, .class_ 4), (1, u "java/lang/Enum"), (0, u "name"), (0, u "Ljava/lang/String;"), (2, u "ordinal"), (0, u "I"), (1, .class_ 14), (1, u "java/lang/Object"), (4, u "hash"), (86, .class_ 108), (1, u "java/lang/Enum$EnumDesc"), (2, .class_ 112), (0, u "java/lang/constant/Constable"), (0, .class_ 114), (0, u "java/lang/Comparable"), (0, .class_ 116), (0, u "java/io/Serializable")] 87

/-- java/lang/Enum -/
def k9 : Class := { plain "java/lang/Enum" (some 0) with
  accessFlags := 1057
  interfaces := #[5, 3, 2]
  cf := some (fileOf pool9 2 #[.nestMembers #[106]] #[] 1057 12 #[111, 113, 115] #[{ accessFlags := 18, nameIndex := 5, descriptorIndex := 6, attributes := #[] }, { accessFlags := 18, nameIndex := 9, descriptorIndex := 10, attributes := #[] }, { accessFlags := 2, nameIndex := 19, descriptorIndex := 10, attributes := #[] }])
  fields := #[{ name := "name", type := (.object "java/lang/String"), accessFlags := 18, slot := 0, constantValue := 0 }, { name := "ordinal", type := .int, accessFlags := 18, slot := 1, constantValue := 0 }, { name := "hash", type := .int, accessFlags := 2, slot := 2, constantValue := 0 }]
  methods := #[]
  instanceTypes := #[(.object "java/lang/String"), .int, .int]
  staticTypes := #[]
  resolved := Array.replicate 204 none
  statics := none }

def pool10 : Array CpInfo := pool [(1, .class_ 2), (0, u "com/example/thorough_topology/thoroughtopology/model/Sort"), (2, u "BOOL"), (0, u "Lcom/example/thorough_topology/thoroughtopology/model/Sort;"), (2, u "INT"), (2, u "$VALUES"), (0, u "[Lcom/example/thorough_topology/thoroughtopology/model/Sort;"), (6, .class_ 22), (1, u "java/lang/Enum"), (8, u "spelling"), (0, u "Ljava/lang/String;")] 27

/-- com/example/thorough_topology/thoroughtopology/model/Sort -/
def k10 : Class := { plain "com/example/thorough_topology/thoroughtopology/model/Sort" (some 9) with
  accessFlags := 16433
  interfaces := #[]
  cf := some (fileOf pool10 1 #[] #[] 16433 20 #[] #[{ accessFlags := 16409, nameIndex := 5, descriptorIndex := 6, attributes := #[] }, { accessFlags := 16409, nameIndex := 9, descriptorIndex := 6, attributes := #[] }, { accessFlags := 18, nameIndex := 31, descriptorIndex := 32, attributes := #[] }, { accessFlags := 4122, nameIndex := 12, descriptorIndex := 13, attributes := #[] }])
  fields := #[{ name := "BOOL", type := (.object "com/example/thorough_topology/thoroughtopology/model/Sort"), accessFlags := 16409, slot := 0, constantValue := 0 }, { name := "INT", type := (.object "com/example/thorough_topology/thoroughtopology/model/Sort"), accessFlags := 16409, slot := 1, constantValue := 0 }, { name := "spelling", type := (.object "java/lang/String"), accessFlags := 18, slot := 3, constantValue := 0 }, { name := "$VALUES", type := (.array (.object "com/example/thorough_topology/thoroughtopology/model/Sort")), accessFlags := 4122, slot := 2, constantValue := 0 }]
  methods := #[]
  instanceTypes := #[(.object "java/lang/String"), .int, .int, (.object "java/lang/String")]
  staticTypes := #[(.object "com/example/thorough_topology/thoroughtopology/model/Sort"), (.object "com/example/thorough_topology/thoroughtopology/model/Sort"), (.array (.object "com/example/thorough_topology/thoroughtopology/model/Sort"))]
  resolved := Array.replicate 60 none
  statics := some 1 }

def pool11 : Array CpInfo := pool [(1, .methodref 2 3), (0, .class_ 4), (0, .nameAndType 5 6), (0, u "java/lang/Object"), (0, u "<init>"), (0, u "()V"), (0, .string 8), (0, u "name"), (0, .methodref 10 11), (0, .class_ 12), (0, .nameAndType 13 14), (0, u "java/util/Objects"), (0, u "requireNonNull"), (0, u "(Ljava/lang/Object;Ljava/lang/String;)Ljava/lang/Object;"), (0, .class_ 16), (0, u "java/lang/String"), (0, .fieldref 18 19), (0, .class_ 20), (0, .nameAndType 8 21), (0, u "com/example/thorough_topology/thoroughtopology/model/IndexSet"), (0, u "Ljava/lang/String;"), (8, u "(Ljava/lang/String;)V")] 7

def k11c0 : Code := { maxStack := 3, maxLocals := 2, code := prog_99_method_1_code, exceptionTable := #[], attributes := #[] }
def k11m0 : Method := { name := "<init>", desc := "(Ljava/lang/String;)V", sig := { parameters := [(.object "java/lang/String")], returnType := none }, accessFlags := 1, code := some k11c0 }
/-- com/example/thorough_topology/thoroughtopology/model/IndexSet -/
def k11 : Class := { plain "com/example/thorough_topology/thoroughtopology/model/IndexSet" (some 0) with
  accessFlags := 33
  interfaces := #[]
  cf := some (fileOf pool11 18 #[] #[{ accessFlags := 1, nameIndex := 5, descriptorIndex := 30, attributes := #[] }] 33 2 #[] #[{ accessFlags := 18, nameIndex := 8, descriptorIndex := 21, attributes := #[] }])
  fields := #[{ name := "name", type := (.object "java/lang/String"), accessFlags := 18, slot := 0, constantValue := 0 }]
  methods := #[k11m0]
  instanceTypes := #[(.object "java/lang/String")]
  staticTypes := #[]
  resolved := Array.replicate 38 none
  statics := none }

def pool12 : Array CpInfo := pool [(4, .class_ 6), (1, u "java/lang/Object"), (0, u "<init>"), (0, u "()V"), (5, .class_ 16), (1, u "java/lang/StringLatin1"), (73, u "canEncode"), (14, u "(C)Z"), (15, u "$assertionsDisabled"), (0, u "Z"), (98, .class_ 223), (1, u "java/lang/StringLatin1$LinesSpliterator"), (156, u "toBytes"), (1, u "(C)[B"), (7, .class_ 391), (0, u "java/lang/StringLatin1$CharsSpliterator")] 3

def k12m0 : Method := { name := "<init>", desc := "()V", sig := { parameters := [], returnType := none }, accessFlags := 0, code := none }
def k12c1 : Code := { maxStack := 2, maxLocals := 1, code := jdk_43_method_3_code, exceptionTable := #[], attributes := #[] }
def k12m1 : Method := { name := "canEncode", desc := "(C)Z", sig := { parameters := [.char], returnType := some .boolean }, accessFlags := 9, code := some k12c1 }
def k12c2 : Code := { maxStack := 4, maxLocals := 1, code := jdk_43_method_46_code, exceptionTable := #[], attributes := #[] }
def k12m2 : Method := { name := "toBytes", desc := "(C)[B", sig := { parameters := [.char], returnType := some (.array .byte) }, accessFlags := 9, code := some k12c2 }
/-- java/lang/StringLatin1 -/
def k12 : Class := { plain "java/lang/StringLatin1" (some 0) with
  accessFlags := 48
  interfaces := #[]
  cf := some (fileOf pool12 14 #[.nestMembers #[390, 221]] #[{ accessFlags := 0, nameIndex := 7, descriptorIndex := 8, attributes := #[] }, { accessFlags := 9, nameIndex := 90, descriptorIndex := 105, attributes := #[] }, { accessFlags := 9, nameIndex := 380, descriptorIndex := 382, attributes := #[] }] 48 4 #[] #[{ accessFlags := 4120, nameIndex := 121, descriptorIndex := 122, attributes := #[] }])
  fields := #[{ name := "$assertionsDisabled", type := .boolean, accessFlags := 4120, slot := 0, constantValue := 0 }]
  methods := #[k12m0, k12m1, k12m2]
  instanceTypes := #[]
  staticTypes := #[.boolean]
  resolved := Array.replicate 395 none
  statics := none }

def pool13 : Array CpInfo := pool [(2, .class_ 4), (1, u "java/lang/Object"), (0, u "<init>"), (0, u "()V"), (35, .class_ 44), (1, u "java/util/Objects"), (0, u "requireNonNull"), (48, u "(Ljava/lang/Object;Ljava/lang/String;)Ljava/lang/Object;")] 89

def k13m0 : Method := { name := "<init>", desc := "()V", sig := { parameters := [], returnType := none }, accessFlags := 2, code := none }
def k13c1 : Code := { maxStack := 3, maxLocals := 2, code := jdk_31_method_11_code, exceptionTable := #[], attributes := #[] }
def k13m1 : Method := { name := "requireNonNull", desc := "(Ljava/lang/Object;Ljava/lang/String;)Ljava/lang/Object;", sig := { parameters := [(.object "java/lang/Object"), (.object "java/lang/String")], returnType := some (.object "java/lang/Object") }, accessFlags := 9, code := some k13c1 }
/-- java/util/Objects -/
def k13 : Class := { plain "java/util/Objects" (some 0) with
  accessFlags := 49
  interfaces := #[]
  cf := some (fileOf pool13 42 #[] #[{ accessFlags := 2, nameIndex := 5, descriptorIndex := 6, attributes := #[] }, { accessFlags := 9, nameIndex := 45, descriptorIndex := 94, attributes := #[] }] 49 2 #[] #[])
  fields := #[]
  methods := #[k13m0, k13m1]
  instanceTypes := #[]
  staticTypes := #[]
  resolved := Array.replicate 184 none
  statics := none }

def pool14 : Array CpInfo := pool [(1, .methodref 2 3), (0, .class_ 4), (0, .nameAndType 5 6), (0, u "java/lang/Object"), (0, u "<init>"), (0, u "()V"), (0, .string 8), (0, u "name"), (0, .methodref 10 11), (0, .class_ 12), (0, .nameAndType 13 14), (0, u "java/util/Objects"), (0, u "requireNonNull"), (0, u "(Ljava/lang/Object;Ljava/lang/String;)Ljava/lang/Object;"), (0, .class_ 16), (0, u "java/lang/String"), (0, .fieldref 18 19), (0, .class_ 20), (0, .nameAndType 8 21), (0, u "com/example/thorough_topology/thoroughtopology/model/Parameter"), (0, u "Ljava/lang/String;"), (0, .string 23), (0, u "sort"), (0, .class_ 25), (0, u "com/example/thorough_topology/thoroughtopology/model/Sort"), (0, .fieldref 18 27), (0, .nameAndType 23 28), (0, u "Lcom/example/thorough_topology/thoroughtopology/model/Sort;"), (0, .fieldref 18 30), (0, .nameAndType 31 32), (0, u "indexSet"), (0, u "Lcom/example/thorough_topology/thoroughtopology/model/IndexSet;"), (11, u "(Ljava/lang/String;Lcom/example/thorough_topology/thoroughtopology/model/Sort;Lcom/example/thorough_topology/thoroughtopology/model/IndexSet;)V"), (4, u "()Lcom/example/thorough_topology/thoroughtopology/model/IndexSet;"), (0, u "isIndexed"), (0, u "()Z")] 6

def k14c0 : Code := { maxStack := 3, maxLocals := 4, code := prog_101_method_1_code, exceptionTable := #[], attributes := #[] }
def k14m0 : Method := { name := "<init>", desc := "(Ljava/lang/String;Lcom/example/thorough_topology/thoroughtopology/model/Sort;Lcom/example/thorough_topology/thoroughtopology/model/IndexSet;)V", sig := { parameters := [(.object "java/lang/String"), (.object "com/example/thorough_topology/thoroughtopology/model/Sort"), (.object "com/example/thorough_topology/thoroughtopology/model/IndexSet")], returnType := none }, accessFlags := 1, code := some k14c0 }
def k14c1 : Code := { maxStack := 1, maxLocals := 1, code := prog_101_method_4_code, exceptionTable := #[], attributes := #[] }
def k14m1 : Method := { name := "indexSet", desc := "()Lcom/example/thorough_topology/thoroughtopology/model/IndexSet;", sig := { parameters := [], returnType := some (.object "com/example/thorough_topology/thoroughtopology/model/IndexSet") }, accessFlags := 1, code := some k14c1 }
def k14c2 : Code := { maxStack := 1, maxLocals := 1, code := prog_101_method_5_code, exceptionTable := #[], attributes := #[] }
def k14m2 : Method := { name := "isIndexed", desc := "()Z", sig := { parameters := [], returnType := some .boolean }, accessFlags := 1, code := some k14c2 }
/-- com/example/thorough_topology/thoroughtopology/model/Parameter -/
def k14 : Class := { plain "com/example/thorough_topology/thoroughtopology/model/Parameter" (some 0) with
  accessFlags := 33
  interfaces := #[]
  cf := some (fileOf pool14 18 #[] #[{ accessFlags := 1, nameIndex := 5, descriptorIndex := 44, attributes := #[] }, { accessFlags := 1, nameIndex := 31, descriptorIndex := 49, attributes := #[] }, { accessFlags := 1, nameIndex := 50, descriptorIndex := 51, attributes := #[] }] 33 2 #[] #[{ accessFlags := 18, nameIndex := 8, descriptorIndex := 21, attributes := #[] }, { accessFlags := 18, nameIndex := 23, descriptorIndex := 28, attributes := #[] }, { accessFlags := 18, nameIndex := 31, descriptorIndex := 32, attributes := #[] }])
  fields := #[{ name := "name", type := (.object "java/lang/String"), accessFlags := 18, slot := 0, constantValue := 0 }, { name := "sort", type := (.object "com/example/thorough_topology/thoroughtopology/model/Sort"), accessFlags := 18, slot := 1, constantValue := 0 }, { name := "indexSet", type := (.object "com/example/thorough_topology/thoroughtopology/model/IndexSet"), accessFlags := 18, slot := 2, constantValue := 0 }]
  methods := #[k14m0, k14m1, k14m2]
  instanceTypes := #[(.object "java/lang/String"), (.object "com/example/thorough_topology/thoroughtopology/model/Sort"), (.object "com/example/thorough_topology/thoroughtopology/model/IndexSet")]
  staticTypes := #[]
  resolved := Array.replicate 58 none
  statics := none }

def pool15 : Array CpInfo := pool [(2, .class_ 4), (1, u "java/lang/Object"), (0, u "<init>"), (0, u "()V"), (17, .class_ 26), (1, u "jdk/internal/util/Preconditions"), (28, .class_ 56), (0, u "jdk/internal/util/Preconditions$4"), (57, .class_ 115), (0, u "jdk/internal/util/Preconditions$1"), (7, u "SIOOBE_FORMATTER"), (0, u "Ljava/util/function/BiFunction;"), (0, .class_ 126), (0, u "jdk/internal/util/Preconditions$2"), (3, u "AIOOBE_FORMATTER"), (0, .class_ 132), (0, u "jdk/internal/util/Preconditions$3"), (3, u "IOOBE_FORMATTER")] 57

def k15m0 : Method := { name := "<init>", desc := "()V", sig := { parameters := [], returnType := none }, accessFlags := 1, code := none }
/-- jdk/internal/util/Preconditions -/
def k15 : Class := { plain "jdk/internal/util/Preconditions" (some 0) with
  accessFlags := 33
  interfaces := #[]
  cf := some (fileOf pool15 24 #[.nestMembers #[55, 131, 125, 114]] #[{ accessFlags := 1, nameIndex := 5, descriptorIndex := 6, attributes := #[] }] 33 2 #[] #[{ accessFlags := 25, nameIndex := 123, descriptorIndex := 124, attributes := #[] }, { accessFlags := 25, nameIndex := 130, descriptorIndex := 124, attributes := #[] }, { accessFlags := 25, nameIndex := 136, descriptorIndex := 124, attributes := #[] }])
  fields := #[{ name := "SIOOBE_FORMATTER", type := (.object "java/util/function/BiFunction"), accessFlags := 25, slot := 0, constantValue := 0 }, { name := "AIOOBE_FORMATTER", type := (.object "java/util/function/BiFunction"), accessFlags := 25, slot := 1, constantValue := 0 }, { name := "IOOBE_FORMATTER", type := (.object "java/util/function/BiFunction"), accessFlags := 25, slot := 2, constantValue := 0 }]
  methods := #[k15m0]
  instanceTypes := #[]
  staticTypes := #[(.object "java/util/function/BiFunction"), (.object "java/util/function/BiFunction"), (.object "java/util/function/BiFunction")]
  resolved := Array.replicate 194 none
  statics := some 2 }

def pool16 : Array CpInfo := pool [(9, u "<init>"), (6, .class_ 18), (1, u "java/lang/Object"), (0, u "()V"), (1, .class_ 23), (1, u "jdk/internal/util/ArraysSupport"), (0, u "LOG2_ARRAY_LONG_INDEX_SCALE"), (0, u "I"), (2, u "U"), (0, u "Ljdk/internal/misc/Unsafe;"), (8, u "BIG_ENDIAN"), (0, u "Z"), (8, u "LOG2_BYTE_BIT_SIZE"), (4, u "LOG2_ARRAY_INT_INDEX_SCALE"), (54, u "JLA"), (0, u "Ljdk/internal/access/JavaLangAccess;"), (11, u "LOG2_ARRAY_BOOLEAN_INDEX_SCALE"), (9, u "LOG2_ARRAY_BYTE_INDEX_SCALE"), (5, u "LOG2_ARRAY_CHAR_INDEX_SCALE"), (5, u "LOG2_ARRAY_SHORT_INDEX_SCALE"), (18, u "LOG2_ARRAY_FLOAT_INDEX_SCALE"), (24, u "LOG2_ARRAY_DOUBLE_INDEX_SCALE"), (89, u "T_BOOLEAN"), (2, u "T_CHAR"), (1, u "T_FLOAT"), (1, u "T_DOUBLE"), (1, u "T_BYTE"), (1, u "T_SHORT"), (1, u "T_INT"), (1, u "T_LONG"), (1, u "SOFT_MAX_ARRAY_LENGTH")] 83

def k16m0 : Method := { name := "<init>", desc := "()V", sig := { parameters := [], returnType := none }, accessFlags := 2, code := none }
/-- jdk/internal/util/ArraysSupport -/
def k16 : Class := { plain "jdk/internal/util/ArraysSupport" (some 0) with
  accessFlags := 33
  interfaces := #[]
  cf := some (fileOf pool16 21 #[] #[{ accessFlags := 2, nameIndex := 9, descriptorIndex := 19, attributes := #[] }] 33 16 #[] #[{ accessFlags := 24, nameIndex := 28, descriptorIndex := 29, attributes := #[] }, { accessFlags := 26, nameIndex := 38, descriptorIndex := 39, attributes := #[] }, { accessFlags := 25, nameIndex := 121, descriptorIndex := 25, attributes := #[] }, { accessFlags := 25, nameIndex := 131, descriptorIndex := 25, attributes := #[] }, { accessFlags := 25, nameIndex := 137, descriptorIndex := 25, attributes := #[] }, { accessFlags := 25, nameIndex := 143, descriptorIndex := 25, attributes := #[] }, { accessFlags := 25, nameIndex := 53, descriptorIndex := 25, attributes := #[] }, { accessFlags := 25, nameIndex := 24, descriptorIndex := 25, attributes := #[] }, { accessFlags := 25, nameIndex := 162, descriptorIndex := 25, attributes := #[] }, { accessFlags := 25, nameIndex := 187, descriptorIndex := 25, attributes := #[] }, { accessFlags := 26, nameIndex := 48, descriptorIndex := 25, attributes := #[] }, { accessFlags := 25, nameIndex := 277, descriptorIndex := 25, attributes := #[] }, { accessFlags := 25, nameIndex := 280, descriptorIndex := 25, attributes := #[] }, { accessFlags := 25, nameIndex := 282, descriptorIndex := 25, attributes := #[] }, { accessFlags := 25, nameIndex := 284, descriptorIndex := 25, attributes := #[] }, { accessFlags := 25, nameIndex := 286, descriptorIndex := 25, attributes := #[] }, { accessFlags := 25, nameIndex := 288, descriptorIndex := 25, attributes := #[] }, { accessFlags := 25, nameIndex := 290, descriptorIndex := 25, attributes := #[] }, { accessFlags := 25, nameIndex := 292, descriptorIndex := 25, attributes := #[] }, { accessFlags := 26, nameIndex := 108, descriptorIndex := 109, attributes := #[] }, { accessFlags := 25, nameIndex := 294, descriptorIndex := 25, attributes := #[] }])
  fields := #[{ name := "U", type := (.object "jdk/internal/misc/Unsafe"), accessFlags := 24, slot := 0, constantValue := 0 }, { name := "BIG_ENDIAN", type := .boolean, accessFlags := 26, slot := 1, constantValue := 0 }, { name := "LOG2_ARRAY_BOOLEAN_INDEX_SCALE", type := .int, accessFlags := 25, slot := 2, constantValue := 0 }, { name := "LOG2_ARRAY_BYTE_INDEX_SCALE", type := .int, accessFlags := 25, slot := 3, constantValue := 0 }, { name := "LOG2_ARRAY_CHAR_INDEX_SCALE", type := .int, accessFlags := 25, slot := 4, constantValue := 0 }, { name := "LOG2_ARRAY_SHORT_INDEX_SCALE", type := .int, accessFlags := 25, slot := 5, constantValue := 0 }, { name := "LOG2_ARRAY_INT_INDEX_SCALE", type := .int, accessFlags := 25, slot := 6, constantValue := 0 }, { name := "LOG2_ARRAY_LONG_INDEX_SCALE", type := .int, accessFlags := 25, slot := 7, constantValue := 0 }, { name := "LOG2_ARRAY_FLOAT_INDEX_SCALE", type := .int, accessFlags := 25, slot := 8, constantValue := 0 }, { name := "LOG2_ARRAY_DOUBLE_INDEX_SCALE", type := .int, accessFlags := 25, slot := 9, constantValue := 0 }, { name := "LOG2_BYTE_BIT_SIZE", type := .int, accessFlags := 26, slot := 10, constantValue := 0 }, { name := "T_BOOLEAN", type := .int, accessFlags := 25, slot := 11, constantValue := 0 }, { name := "T_CHAR", type := .int, accessFlags := 25, slot := 12, constantValue := 0 }, { name := "T_FLOAT", type := .int, accessFlags := 25, slot := 13, constantValue := 0 }, { name := "T_DOUBLE", type := .int, accessFlags := 25, slot := 14, constantValue := 0 }, { name := "T_BYTE", type := .int, accessFlags := 25, slot := 15, constantValue := 0 }, { name := "T_SHORT", type := .int, accessFlags := 25, slot := 16, constantValue := 0 }, { name := "T_INT", type := .int, accessFlags := 25, slot := 17, constantValue := 0 }, { name := "T_LONG", type := .int, accessFlags := 25, slot := 18, constantValue := 0 }, { name := "JLA", type := (.object "jdk/internal/access/JavaLangAccess"), accessFlags := 26, slot := 19, constantValue := 0 }, { name := "SOFT_MAX_ARRAY_LENGTH", type := .int, accessFlags := 25, slot := 20, constantValue := 0 }]
  methods := #[k16m0]
  instanceTypes := #[]
  staticTypes := #[(.object "jdk/internal/misc/Unsafe"), .boolean, .int, .int, .int, .int, .int, .int, .int, .int, .int, .int, .int, .int, .int, .int, .int, .int, .int, (.object "jdk/internal/access/JavaLangAccess"), .int]
  resolved := Array.replicate 378 none
  statics := none }

def pool17 : Array CpInfo := pool [(1, u "java/lang/Cloneable"), (0, .class_ 1), (0, u "java/lang/Object"), (0, .class_ 3)] 3

/-- java/lang/Cloneable -/
def k17 : Class := { plain "java/lang/Cloneable" (some 0) with
  accessFlags := 1537
  interfaces := #[]
  cf := some (fileOf pool17 2 #[] #[] 1537 4 #[] #[])
  fields := #[]
  methods := #[]
  instanceTypes := #[]
  staticTypes := #[]
  resolved := Array.replicate 8 none
  statics := none }

/-- the primitive byte -/
def k18 : Class := { plain "byte" none with kind := .primitive 'B', accessFlags := 0x411 }
/-- [B -/
def k19 : Class := { plain "[B" (some 0) with kind := .array 18 .byte, interfaces := #[17, 2], accessFlags := 1041 }

/-- the primitive char -/
def k20 : Class := { plain "char" none with kind := .primitive 'C', accessFlags := 0x411 }
/-- [C -/
def k21 : Class := { plain "[C" (some 0) with kind := .array 20 .char, interfaces := #[17, 2], accessFlags := 1041 }

/-- the primitive int -/
def k22 : Class := { plain "int" none with kind := .primitive 'I', accessFlags := 0x411 }
/-- [I -/
def k23 : Class := { plain "[I" (some 0) with kind := .array 22 .int, interfaces := #[17, 2], accessFlags := 1041 }

def heap : Heap := #[{ cls := 7, slots := #[.long 0, .int 1, .null, .int 0, .null, .int 0, .int 0], vm := .statics 7 },
  { cls := 10, slots := #[.ref 3, .ref 4, .null], vm := .statics 10 },
  { cls := 15, slots := #[.null, .null, .null], vm := .statics 15 },
  { cls := 10, slots := #[.null, .int 0, .int 0, .null], vm := .none },
  { cls := 10, slots := #[.null, .int 1, .int 0, .null], vm := .none }]
def classes : Array Class := #[k0, k1, k2, k3, k4, k5, k6, k7, k8, k9, k10, k11, k12, k13, k14, k15, k16, k17, k18, k19, k20, k21, k22, k23]
def interned : List (Array UInt16 × Addr) := []
def slotsUsed : Nat := 21
def theMethod : MethodId := ⟨1, 1⟩
def args0 : Array Value := #[.int 97, .int 98, .int 99, .int 3]
def aboutOver (below : List Frame) : State where
  vm := { classes := classes, interned := interned.toArray }
  heap := heap
  slotsUsed := slotsUsed
  threads := #[{ frames := .invoking theMethod args0 :: below }]
def below0 : List Frame := [.native { method := ⟨0, 0⟩, args := #[] }]
def about1 : State := aboutOver below0
def p0 : Program := .bare "" "" ""
def e0 : Env := launch0.env 0 0 0
theorem w_frames : about1.frames = Frame.invoking theMethod args0 :: below0 := rfl
set_option maxRecDepth 65536 in
theorem w_args : argsFit about1.vm theMethod args0 = true := by decide +kernel
theorem heapFits_list (s : State) : heapFits s = s.heap.toList.all (cellFits s) := by simp [heapFits, Array.all_toList]
set_option maxRecDepth 65536 in
theorem w_heap : heapFits about1 = true := by
  rw [heapFits_list]
  decide +kernel
set_option maxRecDepth 65536 in
theorem w_runnable : about1.curStatus? = some .runnable := by decide +kernel
set_option maxRecDepth 65536 in
theorem w_alone : about1.alone = true := by decide +kernel
set_option maxRecDepth 65536 in
theorem w_named : about1.methodNamed? x = some theMethod := by decide +kernel
set_option maxRecDepth 65536 in
theorem w_hears : about1.hears theMethod below0 = true := by decide +kernel
set_option maxRecDepth 65536 in
theorem w_ripe : about1.ripe theMethod args0 below0 = true := by decide +kernel
theorem w_running : about1.status = .running := rfl
set_option maxRecDepth 65536 in
theorem w_room : about1.hasRoom e0.platform room_1 = true :=
  launch0.hasRoom_least _ room_1 (by decide +kernel) (by decide +kernel) (by decide +kernel) (by decide +kernel) (by decide +kernel) (by decide +kernel)
theorem allAtoms_all (ts : List Jvm.Cond) (a : Array Jvm.Value) (st : Jvm.State) : (allAtoms ts).before a st = ts.all (fun c => c.before a st) := by
  induction ts with
  | nil => rfl
  | cons c t ih =>
    show (Jvm.Cond.and c (allAtoms t)).before a st = _
    rw [Jvm.Cond.before_and, ih, List.all_cons]
def words1 : List Jvm.Cond := Jvm.Cond.code x code maxLocals ret :: tables_1
/-- a 'code' word, met by the world's own term for the bytes: nothing is compared byte by byte -/
theorem code_word {y : MethodName} {bytes : ByteArray} {mx : Nat} {rt : Option FieldType} {a : Array Value} {s : State} {m : MethodId} {meth : Method} {c : Code} (h1 : s.methodNamed? y = some m) (h2 : s.vm.method? m = some meth) (h3 : meth.code = some c) (h4 : c.code = bytes)
    (h5 : (c.maxLocals == mx && c.exceptionTable.isEmpty && decide (c.maxStack ≤ mostOperands) && decide (meth.sig.returnType = rt) && !meth.locks && decide (parseMethodDescriptor y.desc = some meth.sig)) = true) : (Jvm.Cond.code y bytes mx rt).before a s = true := by
  simp only [Bool.and_eq_true, beq_iff_eq, Bool.not_eq_true', decide_eq_true_eq] at h5
  obtain ⟨⟨⟨⟨⟨g1, g2⟩, g3⟩, g4⟩, g5⟩, g6⟩ := h5
  simp [Cond.before, Cond.holds, Cond.value, h1, h2, h3, h4, g1, g2, g3, g4, g5, g6]
def isCode : Jvm.Cond → Bool
  | .code _ _ _ _ => true
  | _ => false
theorem all_split {L : List Jvm.Cond} {P : Jvm.Cond → Bool} (h1 : L.all (fun c => isCode c || P c) = true) (h2 : ∀ c ∈ L.filter isCode, P c = true) : L.all P = true := by
  refine List.all_eq_true.mpr fun c hc => ?_
  have h := List.all_eq_true.mp h1 c hc
  rcases Bool.eq_false_or_eq_true (isCode c) with hi | hi
  · exact h2 c (List.mem_filter.mpr ⟨hc, hi⟩)
  · simpa [hi] using h
set_option maxRecDepth 65536 in
theorem w_c0 : (Jvm.Cond.code x code maxLocals ret).before args0 about1 = true := code_word (m := ⟨1, 1⟩) (meth := k1m1) (c := k1c1) (by decide +kernel) rfl rfl rfl (by decide +kernel)
set_option maxRecDepth 65536 in
theorem w_c1 : (Jvm.Cond.code ({ cls := "java/lang/String", name := "<init>", desc := "([C)V" } : Jvm.MethodName) jdk_42_method_3_code (2 : Nat) (Option.none : Option Jvm.ClassFile.FieldType)).before args0 about1 = true := code_word (m := ⟨7, 1⟩) (meth := k7m1) (c := k7c1) (by decide +kernel) rfl rfl rfl (by decide +kernel)
set_option maxRecDepth 65536 in
theorem w_c2 : (Jvm.Cond.code ({ cls := "java/lang/String", name := "<init>", desc := "([CIILjava/lang/Void;)V" } : Jvm.MethodName) jdk_42_method_149_code (6 : Nat) (Option.none : Option Jvm.ClassFile.FieldType)).before args0 about1 = true := code_word (m := ⟨7, 3⟩) (meth := k7m3) (c := k7c3) (by decide +kernel) rfl rfl rfl (by decide +kernel)
set_option maxRecDepth 65536 in
theorem w_c3 : (Jvm.Cond.code ({ cls := "java/lang/Object", name := "<init>", desc := "()V" } : Jvm.MethodName) object_method_1_code (1 : Nat) (Option.none : Option Jvm.ClassFile.FieldType)).before args0 about1 = true := code_word (m := ⟨0, 0⟩) (meth := k0m0) (c := k0c0) (by decide +kernel) rfl rfl rfl (by decide +kernel)
set_option maxRecDepth 65536 in
theorem w_c4 : (Jvm.Cond.code ({ cls := "java/lang/StringUTF16", name := "compress", desc := "([CII)[B" } : Jvm.MethodName) jdk_52_method_16_code (6 : Nat) (Option.some (Jvm.ClassFile.FieldType.array Jvm.ClassFile.FieldType.byte))).before args0 about1 = true := code_word (m := ⟨8, 2⟩) (meth := k8m2) (c := k8c2) (by decide +kernel) rfl rfl rfl (by decide +kernel)
set_option maxRecDepth 65536 in
theorem w_c5 : (Jvm.Cond.code ({ cls := "java/lang/StringUTF16", name := "compress", desc := "([CI[BII)I" } : Jvm.MethodName) jdk_52_method_21_code (7 : Nat) (Option.some Jvm.ClassFile.FieldType.int)).before args0 about1 = true := code_word (m := ⟨8, 3⟩) (meth := k8m3) (c := k8c3) (by decide +kernel) rfl rfl rfl (by decide +kernel)
set_option maxRecDepth 65536 in
theorem w_c6 : (Jvm.Cond.code ({ cls := "java/lang/StringUTF16", name := "coderFromArrayLen", desc := "([BI)B" } : Jvm.MethodName) jdk_52_method_15_code (2 : Nat) (Option.some Jvm.ClassFile.FieldType.byte)).before args0 about1 = true := code_word (m := ⟨8, 1⟩) (meth := k8m1) (c := k8c1) (by decide +kernel) rfl rfl rfl (by decide +kernel)
set_option maxRecDepth 65536 in
theorem w_c7 : (Jvm.Cond.code ({ cls := "java/lang/String", name := "valueOf", desc := "(C)Ljava/lang/String;" } : Jvm.MethodName) jdk_42_method_139_code (1 : Nat) (Option.some (Jvm.ClassFile.FieldType.object "java/lang/String"))).before args0 about1 = true := code_word (m := ⟨7, 2⟩) (meth := k7m2) (c := k7c2) (by decide +kernel) rfl rfl rfl (by decide +kernel)
set_option maxRecDepth 65536 in
theorem w_c8 : (Jvm.Cond.code ({ cls := "java/lang/StringLatin1", name := "canEncode", desc := "(C)Z" } : Jvm.MethodName) jdk_43_method_3_code (1 : Nat) (Option.some Jvm.ClassFile.FieldType.boolean)).before args0 about1 = true := code_word (m := ⟨12, 1⟩) (meth := k12m1) (c := k12c1) (by decide +kernel) rfl rfl rfl (by decide +kernel)
set_option maxRecDepth 65536 in
theorem w_c9 : (Jvm.Cond.code ({ cls := "java/lang/StringLatin1", name := "toBytes", desc := "(C)[B" } : Jvm.MethodName) jdk_43_method_46_code (1 : Nat) (Option.some (Jvm.ClassFile.FieldType.array Jvm.ClassFile.FieldType.byte))).before args0 about1 = true := code_word (m := ⟨12, 2⟩) (meth := k12m2) (c := k12c2) (by decide +kernel) rfl rfl rfl (by decide +kernel)
set_option maxRecDepth 65536 in
theorem w_c10 : (Jvm.Cond.code ({ cls := "java/lang/String", name := "<init>", desc := "([BB)V" } : Jvm.MethodName) jdk_42_method_151_code (3 : Nat) (Option.none : Option Jvm.ClassFile.FieldType)).before args0 about1 = true := code_word (m := ⟨7, 4⟩) (meth := k7m4) (c := k7c4) (by decide +kernel) rfl rfl rfl (by decide +kernel)
set_option maxRecDepth 65536 in
theorem w_c11 : (Jvm.Cond.code ({ cls := "com/example/thorough_topology/thoroughtopology/model/IndexSet", name := "<init>", desc := "(Ljava/lang/String;)V" } : Jvm.MethodName) prog_99_method_1_code (2 : Nat) (Option.none : Option Jvm.ClassFile.FieldType)).before args0 about1 = true := code_word (m := ⟨11, 0⟩) (meth := k11m0) (c := k11c0) (by decide +kernel) rfl rfl rfl (by decide +kernel)
set_option maxRecDepth 65536 in
theorem w_c12 : (Jvm.Cond.code ({ cls := "java/util/Objects", name := "requireNonNull", desc := "(Ljava/lang/Object;Ljava/lang/String;)Ljava/lang/Object;" } : Jvm.MethodName) jdk_31_method_11_code (2 : Nat) (Option.some (Jvm.ClassFile.FieldType.object "java/lang/Object"))).before args0 about1 = true := code_word (m := ⟨13, 1⟩) (meth := k13m1) (c := k13c1) (by decide +kernel) rfl rfl rfl (by decide +kernel)
set_option maxRecDepth 65536 in
theorem w_c13 : (Jvm.Cond.code ({ cls := "com/example/thorough_topology/thoroughtopology/model/Parameter", name := "<init>", desc := "(Ljava/lang/String;Lcom/example/thorough_topology/thoroughtopology/model/Sort;Lcom/example/thorough_topology/thoroughtopology/model/IndexSet;)V" } : Jvm.MethodName) prog_101_method_1_code (4 : Nat) (Option.none : Option Jvm.ClassFile.FieldType)).before args0 about1 = true := code_word (m := ⟨14, 0⟩) (meth := k14m0) (c := k14c0) (by decide +kernel) rfl rfl rfl (by decide +kernel)
set_option maxRecDepth 65536 in
theorem w_c14 : (Jvm.Cond.code ({ cls := "com/example/thorough_topology/thoroughtopology/model/Parameter", name := "isIndexed", desc := "()Z" } : Jvm.MethodName) prog_101_method_5_code (1 : Nat) (Option.some Jvm.ClassFile.FieldType.boolean)).before args0 about1 = true := code_word (m := ⟨14, 2⟩) (meth := k14m2) (c := k14c2) (by decide +kernel) rfl rfl rfl (by decide +kernel)
set_option maxRecDepth 65536 in
theorem w_c15 : (Jvm.Cond.code ({ cls := "com/example/thorough_topology/thoroughtopology/model/Parameter", name := "indexSet", desc := "()Lcom/example/thorough_topology/thoroughtopology/model/IndexSet;" } : Jvm.MethodName) prog_101_method_4_code (1 : Nat) (Option.some (Jvm.ClassFile.FieldType.object "com/example/thorough_topology/thoroughtopology/model/IndexSet"))).before args0 about1 = true := code_word (m := ⟨14, 1⟩) (meth := k14m1) (c := k14c1) (by decide +kernel) rfl rfl rfl (by decide +kernel)
def codes1 : List Jvm.Cond := [Jvm.Cond.code x code maxLocals ret, Jvm.Cond.code ({ cls := "java/lang/String", name := "<init>", desc := "([C)V" } : Jvm.MethodName) jdk_42_method_3_code (2 : Nat) (Option.none : Option Jvm.ClassFile.FieldType), Jvm.Cond.code ({ cls := "java/lang/String", name := "<init>", desc := "([CIILjava/lang/Void;)V" } : Jvm.MethodName) jdk_42_method_149_code (6 : Nat) (Option.none : Option Jvm.ClassFile.FieldType), Jvm.Cond.code ({ cls := "java/lang/Object", name := "<init>", desc := "()V" } : Jvm.MethodName) object_method_1_code (1 : Nat) (Option.none : Option Jvm.ClassFile.FieldType), Jvm.Cond.code ({ cls := "java/lang/StringUTF16", name := "compress", desc := "([CII)[B" } : Jvm.MethodName) jdk_52_method_16_code (6 : Nat) (Option.some (Jvm.ClassFile.FieldType.array Jvm.ClassFile.FieldType.byte)), Jvm.Cond.code ({ cls := "java/lang/StringUTF16", name := "compress", desc := "([CI[BII)I" } : Jvm.MethodName) jdk_52_method_21_code (7 : Nat) (Option.some Jvm.ClassFile.FieldType.int), Jvm.Cond.code ({ cls := "java/lang/StringUTF16", name := "coderFromArrayLen", desc := "([BI)B" } : Jvm.MethodName) jdk_52_method_15_code (2 : Nat) (Option.some Jvm.ClassFile.FieldType.byte), Jvm.Cond.code ({ cls := "java/lang/String", name := "valueOf", desc := "(C)Ljava/lang/String;" } : Jvm.MethodName) jdk_42_method_139_code (1 : Nat) (Option.some (Jvm.ClassFile.FieldType.object "java/lang/String")), Jvm.Cond.code ({ cls := "java/lang/StringLatin1", name := "canEncode", desc := "(C)Z" } : Jvm.MethodName) jdk_43_method_3_code (1 : Nat) (Option.some Jvm.ClassFile.FieldType.boolean), Jvm.Cond.code ({ cls := "java/lang/StringLatin1", name := "toBytes", desc := "(C)[B" } : Jvm.MethodName) jdk_43_method_46_code (1 : Nat) (Option.some (Jvm.ClassFile.FieldType.array Jvm.ClassFile.FieldType.byte)), Jvm.Cond.code ({ cls := "java/lang/String", name := "<init>", desc := "([BB)V" } : Jvm.MethodName) jdk_42_method_151_code (3 : Nat) (Option.none : Option Jvm.ClassFile.FieldType), Jvm.Cond.code ({ cls := "com/example/thorough_topology/thoroughtopology/model/IndexSet", name := "<init>", desc := "(Ljava/lang/String;)V" } : Jvm.MethodName) prog_99_method_1_code (2 : Nat) (Option.none : Option Jvm.ClassFile.FieldType), Jvm.Cond.code ({ cls := "java/util/Objects", name := "requireNonNull", desc := "(Ljava/lang/Object;Ljava/lang/String;)Ljava/lang/Object;" } : Jvm.MethodName) jdk_31_method_11_code (2 : Nat) (Option.some (Jvm.ClassFile.FieldType.object "java/lang/Object")), Jvm.Cond.code ({ cls := "com/example/thorough_topology/thoroughtopology/model/Parameter", name := "<init>", desc := "(Ljava/lang/String;Lcom/example/thorough_topology/thoroughtopology/model/Sort;Lcom/example/thorough_topology/thoroughtopology/model/IndexSet;)V" } : Jvm.MethodName) prog_101_method_1_code (4 : Nat) (Option.none : Option Jvm.ClassFile.FieldType), Jvm.Cond.code ({ cls := "com/example/thorough_topology/thoroughtopology/model/Parameter", name := "isIndexed", desc := "()Z" } : Jvm.MethodName) prog_101_method_5_code (1 : Nat) (Option.some Jvm.ClassFile.FieldType.boolean), Jvm.Cond.code ({ cls := "com/example/thorough_topology/thoroughtopology/model/Parameter", name := "indexSet", desc := "()Lcom/example/thorough_topology/thoroughtopology/model/IndexSet;" } : Jvm.MethodName) prog_101_method_4_code (1 : Nat) (Option.some (Jvm.ClassFile.FieldType.object "com/example/thorough_topology/thoroughtopology/model/IndexSet"))]
set_option maxRecDepth 65536 in
theorem codes_eq : words1.filter isCode = codes1 := rfl
theorem w_codes : ∀ c ∈ words1.filter isCode, c.before args0 about1 = true := by
  rw [codes_eq]
  intro c hc
  simp only [codes1, List.mem_cons, List.not_mem_nil, or_false] at hc
  rcases hc with rfl | rfl | rfl | rfl | rfl | rfl | rfl | rfl | rfl | rfl | rfl | rfl | rfl | rfl | rfl | rfl
  · exact w_c0
  · exact w_c1
  · exact w_c2
  · exact w_c3
  · exact w_c4
  · exact w_c5
  · exact w_c6
  · exact w_c7
  · exact w_c8
  · exact w_c9
  · exact w_c10
  · exact w_c11
  · exact w_c12
  · exact w_c13
  · exact w_c14
  · exact w_c15
set_option maxRecDepth 65536 in
theorem w_t1 : (words1.take 24).all (fun c => isCode c || c.before args0 about1) = true := by decide +kernel
set_option maxRecDepth 65536 in
theorem w_t2 : ((words1.drop 24).take 24).all (fun c => isCode c || c.before args0 about1) = true := by decide +kernel
set_option maxRecDepth 65536 in
theorem w_t3 : (((words1.drop 24).drop 24).take 24).all (fun c => isCode c || c.before args0 about1) = true := by decide +kernel
set_option maxRecDepth 65536 in
theorem w_t4 : (((words1.drop 24).drop 24).drop 24).all (fun c => isCode c || c.before args0 about1) = true := by decide +kernel
theorem w_tables : (allAtoms (Jvm.Cond.code x code maxLocals ret :: tables_1)).before args0 about1 = true := by
  rw [allAtoms_all]
  show words1.all (fun c => c.before args0 about1) = true
  refine all_split ?_ w_codes
  rw [← List.take_append_drop 24 words1, List.all_append, w_t1, ← List.take_append_drop 24 (words1.drop 24), List.all_append, w_t2, ← List.take_append_drop 24 ((words1.drop 24).drop 24), List.all_append, w_t3, w_t4]
  rfl
set_option maxRecDepth 65536 in
theorem w_rest : rest_1_c.before args0 about1 = true := by decide +kernel
set_option maxRecDepth 65536 in
theorem w_case : (Jvm.Cond.and given_1 narrow_1).before args0 about1 = true := by decide +kernel
theorem w_applies : (headSpec (Jvm.Cond.code x code maxLocals ret :: tables_1) room_1).applies x e0.platform about1 = true :=
  (Spec.applies_iff w_frames).mpr ⟨w_running, w_runnable, w_alone, w_named, w_hears, w_ripe, w_room, w_tables⟩
theorem atStart : AtStart classFile x code maxLocals ret World_1 tables_1 room_1 Calls_1 rest_1 Pre_1 launch0 p0 e0 about1 theMethod args0 below0 :=
  ⟨lists_1, trivial, launch0.admits_env _ _ _, launch0.least_env, fairChoices_fair.cas, fairChoices_fair.clock, w_frames, w_args, w_heap, w_applies, trivial, w_rest, w_case⟩
end start1
theorem witness_1 : WitnessClaimed_1 := ⟨start1.p0, start1.e0, start1.about1, start1.theMethod, start1.args0, start1.below0, start1.atStart⟩
end Jvm.Pilot.@@N@@
