import JvmDerived
import JvmDerived.Pilot.@@N@@Statement
import JvmDerived.Pilot.@@N@@Code
set_option linter.unusedVariables false
set_option linter.unusedSimpArgs false
@@BLOCK:NumsL.lean.txt@@
/- laws to paste: Road.backV (cut by pick.py; bodies as the Statement names them) -/
namespace Jvm.Pilot.@@N@@
namespace StrChars
open Jvm Sem ClassFile Op Lib Jvm.Stand Jvm.Free.XT Jvm.Free.ALB Jvm.Free.JM Jvm.Free
open Jvm.Lib.Cold (StaticIs)
/-- a char array whose places are chars -/
def Ch (a : Addr) (A : Cell) (U : State) : Prop := Arr .char a A U ∧ Typed .char A
theorem Ch.mv {a : Addr} {A : Cell} {U U' : State} (h : Ch a A U) (hal : U.vm.Alike U'.vm) (hh : U'.heap = U.heap) : Ch a A U' := ⟨h.1.mv hal hh, h.2⟩
theorem Ch.keep {a : Addr} {A : Cell} {U U' : State} (h : Ch a A U) (hal : U.vm.Alike U'.vm) (hk : U'.heap[a]? = some A) : Ch a A U' := ⟨h.1.keep hal hk, h.2⟩
/-- what place i of a char[]'s cell holds -/
def cv (A : Cell) (i : Nat) : Int32 := match A.slots[i]? with | some (.int x) => x | _ => 0
theorem Ch.get {a : Addr} {A : Cell} {U : State} (h : Ch a A U) {i : Nat} (hi : i < A.slots.size) : A.slots[i]? = some (.int (cv A i)) := by
  have e := Array.getElem?_eq_getElem hi
  have f := h.2 i _ e
  unfold cv; rw [e]
  generalize A.slots[i] = v at f
  cases v <;> simp [fits] at f ⊢
/-- the byte that i2b leaves of a char -/
def lo8 (x : Int32) : Int32 := x.toInt8.toInt32
theorem fits_lo8 (y : Int32) : fits .byte (.int (lo8 y)) = true := by
  have h1 := y.toInt8.le_toInt
  have h2 := y.toInt8.toInt_lt
  simp only [lo8, fits, Bool.and_eq_true, decide_eq_true_eq, Int32.le_iff_toInt_le, Int8.toInt_toInt32, show (-128 : Int32).toInt = -128 from by decide, show (127 : Int32).toInt = 127 from by decide]
  omega
/-- A' is A but that each place j of lo .. hi - 1 holds f j -/
def Laid (A A' : Cell) (lo hi : Nat) (f : Nat → Value) : Prop := A'.cls = A.cls ∧ A'.vm = A.vm ∧ A'.slots.size = A.slots.size ∧ ∀ i, A'.slots[i]? = if lo ≤ i ∧ i < hi then some (f i) else A.slots[i]?
theorem Laid.zero (A : Cell) (lo : Nat) (f : Nat → Value) : Laid A A lo (lo + 0) f := ⟨rfl, rfl, rfl, fun i => by rw [if_neg (by omega)]⟩
theorem Laid.step {A Ak : Cell} {lo k : Nat} {f : Nat → Value} {v : Value} (h : Laid A Ak lo k f) (hlo : lo ≤ k) (hk : k < Ak.slots.size) (hv : v = f k) : Laid A (Ak.setSlot k v) lo (k + 1) f := by
  refine ⟨h.1, h.2.1, by simpa [Cell.setSlot] using h.2.2.1, fun i => ?_⟩
  by_cases e : k = i
  · subst e; rw [Cell.slots_setSlot_self v hk, if_pos (by omega), hv]
  · rw [Cell.slots_setSlot_ne v e, h.2.2.2 i]
    by_cases q : lo ≤ i ∧ i < k
    · rw [if_pos q, if_pos (by omega)]
    · rw [if_neg q, if_neg (by omega)]
def U16 : String := "java/lang/StringUTF16"
namespace Cmp5
def yN : MethodName := ⟨"java/lang/StringUTF16", "compress", "([CI[BII)I"⟩
abbrev yB : ByteArray := jdk_52_method_21_code
theorem d0 : decode yB 0 = .ok (.iconst 0, 1) := by decide +kernel
theorem d1 : decode yB 1 = .ok (.istore 5, 2) := by decide +kernel
theorem d3 : decode yB 3 = .ok (.iload 5, 2) := by decide +kernel
theorem d5 : decode yB 5 = .ok (.iload 4, 2) := by decide +kernel
theorem d7 : decode yB 7 = .ok (.if_icmp (.ge) 37, 3) := by decide +kernel
theorem d10 : decode yB 10 = .ok (.aload_n 0, 1) := by decide +kernel
theorem d11 : decode yB 11 = .ok (.iload_n 1, 1) := by decide +kernel
theorem d12 : decode yB 12 = .ok (.caload, 1) := by decide +kernel
theorem d13 : decode yB 13 = .ok (.istore 6, 2) := by decide +kernel
theorem d15 : decode yB 15 = .ok (.iload 6, 2) := by decide +kernel
theorem d17 : decode yB 17 = .ok (.sipush 255, 3) := by decide +kernel
theorem d20 : decode yB 20 = .ok (.if_icmp (.le) 6, 3) := by decide +kernel
theorem d26 : decode yB 26 = .ok (.aload_n 2, 1) := by decide +kernel
theorem d27 : decode yB 27 = .ok (.iload_n 3, 1) := by decide +kernel
theorem d28 : decode yB 28 = .ok (.iload 6, 2) := by decide +kernel
theorem d30 : decode yB 30 = .ok (.i2b, 1) := by decide +kernel
theorem d31 : decode yB 31 = .ok (.bastore, 1) := by decide +kernel
theorem d32 : decode yB 32 = .ok (.iinc 1 1, 3) := by decide +kernel
theorem d35 : decode yB 35 = .ok (.iinc 3 1, 3) := by decide +kernel
theorem d38 : decode yB 38 = .ok (.iinc 5 1, 3) := by decide +kernel
theorem d41 : decode yB 41 = .ok (.goto (-38), 3) := by decide +kernel
theorem d44 : decode yB 44 = .ok (.iload 4, 2) := by decide +kernel
theorem d46 : decode yB 46 = .ok (.ireturn, 1) := by decide +kernel
def site : List Cond := []
def tab : Cond := tabOf yN yB 7 (some .int) site
def P (b : Addr) (A : Cell) (d : Addr) (B : Cell) (o q len : Nat) (args : Array Value) (s : State) : Prop := args = #[.ref b, .int (Int32.ofNat o), .ref d, .int (Int32.ofNat q), .int (Int32.ofNat len)] ∧ Ch b A s ∧ Arr .byte d B s ∧ b ≠ d ∧ o + len ≤ A.slots.size ∧ q + len ≤ B.slots.size ∧ ∀ i, i < len → ¬ 255 < cv A (o + i)
def E (b : Addr) (A : Cell) (d : Addr) (B : Cell) (o q len : Nat) (r : Option Value) (s u : State) : Prop := r = some (.int (Int32.ofNat len)) ∧ ∃ B', Put d B' s u ∧ Laid B B' q (q + len) (fun j => Value.int (lo8 (cv A (o + (j - q)))))
/-- no char of the range above 255: len; the places written hold each char's low byte -/
theorem law (l : Launch) (b : Addr) (A : Cell) (d : Addr) (B : Cell) (o q len : Nat) : Law l yN 5 5 0 0 yB 7 (some .int) site (P b A d B o q len) (E b A d B o q len) (copyLocs d q len) 0 0 := by
  refine Law.of_walk (plainFor_of_name (by decide +kernel)) (by decide +kernel) (by decide +kernel) (by decide) (fun _ _ h => by rw [h.1]; rfl) (fun _ U U' hal hh h => ⟨h.1, h.2.1.mv hal hh, h.2.2.1.mv hal hh, h.2.2.2⟩) (fun r U U' V V' h1 hal h2 h => ⟨h.1, h.2.elim fun B' q => ⟨B', q.1.mv h1 h2, q.2⟩⟩) ?_
  intro p e s m args below meth c s₁ X0 hexec hbytes hml hret hlk hnm hown hh0 W hP
  obtain ⟨rfl, hA, hB, hne, l1, l2, hp⟩ := hP
  have c1 : Steps p.tables e below (s₁.setTop (entryFrame m #[.ref b, .int (Int32.ofNat o), .ref d, .int (Int32.ofNat q), .int (Int32.ofNat len)] 7)) (s₁.setTop (mkF m 0 #[.val (.ref b), .val (.int (Int32.ofNat o)), .val (.ref d), .val (.int (Int32.ofNat q)), .val (.int (Int32.ofNat len)), .unset, .unset] [])) := entry rfl
  have hA0 := hA.1.mv X0.warmed.alike hh0
  have hB0 := hB.mv X0.warmed.alike hh0
  have a31 := hA.1.2.2.2
  have c2 : Steps p.tables e below (s₁.setTop (entryFrame m #[.ref b, .int (Int32.ofNat o), .ref d, .int (Int32.ofNat q), .int (Int32.ofNat len)] 7)) (s₁.setTop (mkF m 3 #[.val (.ref b), .val (.int (Int32.ofNat o)), .val (.ref d), .val (.int (Int32.ofNat q)), .val (.int (Int32.ofNat len)), .val (.int 0), .unset] [])) := c1.trans (by
    refine iconstV X0.here hexec rfl 0 (hb hbytes d0) (by decide) ?_
    refine XS.istore X0.here hexec rfl (hb hbytes d1) rfl rfl ?_
    exact Steps.refl _)
  have loop : ∀ (r i : Nat), i + r = len → ∀ (z : Slot), (z = .unset ∨ ∃ w, z = .val w ∧ w.category = 1) → ∀ (Tl : State) (Bk : Cell), Stand p l e { frames := 0, locals := 0, cells := 0, slots := 0 } s m #[.ref b, .int (Int32.ofNat o), .ref d, .int (Int32.ofNat q), .int (Int32.ofNat len)] below meth c Tl ([] ++ copyLocs d q i) 0 0 → Put d Bk s₁ Tl → Laid B Bk q (q + i) (fun j => Value.int (lo8 (cv A (o + (j - q))))) →
      Steps p.tables e below (s₁.setTop (entryFrame m #[.ref b, .int (Int32.ofNat o), .ref d, .int (Int32.ofNat q), .int (Int32.ofNat len)] 7)) (Tl.setTop (mkF m 3 #[.val (.ref b), .val (.int (Int32.ofNat (o + i))), .val (.ref d), .val (.int (Int32.ofNat (q + i))), .val (.int (Int32.ofNat len)), .val (.int (Int32.ofNat i)), z] [])) → ∃ (T' : State) (B' : Cell) (z' : Slot), Stand p l e { frames := 0, locals := 0, cells := 0, slots := 0 } s m #[.ref b, .int (Int32.ofNat o), .ref d, .int (Int32.ofNat q), .int (Int32.ofNat len)] below meth c T' ([] ++ copyLocs d q len) 0 0 ∧ Put d B' s₁ T' ∧ Laid B B' q (q + len) (fun j => Value.int (lo8 (cv A (o + (j - q))))) ∧
      Steps p.tables e below (s₁.setTop (entryFrame m #[.ref b, .int (Int32.ofNat o), .ref d, .int (Int32.ofNat q), .int (Int32.ofNat len)] 7)) (T'.setTop (mkF m 3 #[.val (.ref b), .val (.int (Int32.ofNat (o + len))), .val (.ref d), .val (.int (Int32.ofNat (q + len))), .val (.int (Int32.ofNat len)), .val (.int (Int32.ofNat len)), z'] [])) := by
    intro r
    induction r with
    | zero =>
      intro i hi z hz Tl Bk Xl pl fl cl
      have hil : i = len := by omega
      rw [hil] at Xl fl cl
      exact ⟨Tl, Bk, z, Xl, pl, fl, cl⟩
    | succ r ih =>
      intro i hi z hz Tl Bk Xl pl fl cl
      have all := X0.warmed.alike.symm.trans Xl.warmed.alike
      have hAl := hA0.keep all (pl.other hne hA0.1)
      have hBk := hB0.like all pl.1 fl.1 fl.2.1 fl.2.2.1
      have hlt : q + i < Bk.slots.size := by rw [fl.2.2.1]; omega
      have c3 : Steps p.tables e below (s₁.setTop (entryFrame m #[.ref b, .int (Int32.ofNat o), .ref d, .int (Int32.ofNat q), .int (Int32.ofNat len)] 7)) (Tl.setTop (mkF m 12 #[.val (.ref b), .val (.int (Int32.ofNat (o + i))), .val (.ref d), .val (.int (Int32.ofNat (q + i))), .val (.int (Int32.ofNat len)), .val (.int (Int32.ofNat i)), z] [.int (Int32.ofNat (o + i)), .ref b])) := cl.trans (by
        refine XS.iload Xl.here hexec rfl (hb hbytes d3) rfl ?_
        refine XS.iload Xl.here hexec rfl (hb hbytes d5) rfl ?_
        refine XS.icmpNo Xl.here hexec rfl (hb hbytes d7) rfl (ii_ge_f (lt32 (by omega) (by omega))) ?_
        refine XS.aloadN Xl.here hexec rfl (hb hbytes d10) rfl rfl ?_
        refine XS.iloadN Xl.here hexec rfl (hb hbytes d11) rfl ?_
        exact Steps.refl _)
      have c4 : Steps p.tables e below (s₁.setTop (entryFrame m #[.ref b, .int (Int32.ofNat o), .ref d, .int (Int32.ofNat q), .int (Int32.ofNat len)] 7)) (Tl.setTop (mkF m 13 #[.val (.ref b), .val (.int (Int32.ofNat (o + i))), .val (.ref d), .val (.int (Int32.ofNat (q + i))), .val (.int (Int32.ofNat len)), .val (.int (Int32.ofNat i)), z] [.int (cv A (o + i))])) := c3.trans (by
        refine Xl.aget hexec hAl rfl (hA.get (i := o + i) (by omega)) rfl rfl (hb hbytes d12) ?_
        exact Steps.refl _)
      have c5 : Steps p.tables e below (s₁.setTop (entryFrame m #[.ref b, .int (Int32.ofNat o), .ref d, .int (Int32.ofNat q), .int (Int32.ofNat len)] 7)) (Tl.setTop (mkF m 15 #[.val (.ref b), .val (.int (Int32.ofNat (o + i))), .val (.ref d), .val (.int (Int32.ofNat (q + i))), .val (.int (Int32.ofNat len)), .val (.int (Int32.ofNat i)), .val (.int (cv A (o + i)))] [])) := c4.trans (by
        refine XS.istoreS Xl.here hexec rfl (hb hbytes d13) rfl rfl hz ?_
        exact Steps.refl _)
      have c6 : Steps p.tables e below (s₁.setTop (entryFrame m #[.ref b, .int (Int32.ofNat o), .ref d, .int (Int32.ofNat q), .int (Int32.ofNat len)] 7)) (Tl.setTop (mkF m 31 #[.val (.ref b), .val (.int (Int32.ofNat (o + i))), .val (.ref d), .val (.int (Int32.ofNat (q + i))), .val (.int (Int32.ofNat len)), .val (.int (Int32.ofNat i)), .val (.int (cv A (o + i)))] [.int (lo8 (cv A (o + i))), .int (Int32.ofNat (q + i)), .ref d])) := c5.trans (by
        refine XS.iload Xl.here hexec rfl (hb hbytes d15) rfl ?_
        refine sipushV Xl.here hexec rfl 255 (hb hbytes d17) (by decide) ?_
        refine XS.icmpYes Xl.here hexec rfl (pc0 := 20) rfl (hb hbytes d20) rfl (ii_le_t (hp i (by omega))) (by decide) rfl ?_
        refine XS.aloadN Xl.here hexec rfl (hb hbytes d26) rfl rfl ?_
        refine XS.iloadN Xl.here hexec rfl (hb hbytes d27) rfl ?_
        refine XS.iload Xl.here hexec rfl (hb hbytes d28) rfl ?_
        refine i2b Xl.here hexec rfl (hb hbytes d30) rfl ?_
        exact Steps.refl _)
      obtain ⟨T7, X7, p7, st7⟩ := Xl.aput hexec hBk rfl hlt rfl (fits_lo8 (cv A (o + i))) (g := (mkF m 31 #[.val (.ref b), .val (.int (Int32.ofNat (o + i))), .val (.ref d), .val (.int (Int32.ofNat (q + i))), .val (.int (Int32.ofNat len)), .val (.int (Int32.ofNat i)), .val (.int (cv A (o + i)))] [.int (lo8 (cv A (o + i))), .int (Int32.ofNat (q + i)), .ref d])) rfl (rest := []) rfl (hb hbytes d31)
      have c8 : Steps p.tables e below (s₁.setTop (entryFrame m #[.ref b, .int (Int32.ofNat o), .ref d, .int (Int32.ofNat q), .int (Int32.ofNat len)] 7)) (T7.setTop (mkF m 32 #[.val (.ref b), .val (.int (Int32.ofNat (o + i))), .val (.ref d), .val (.int (Int32.ofNat (q + i))), .val (.int (Int32.ofNat len)), .val (.int (Int32.ofNat i)), .val (.int (cv A (o + i)))] [])) := c6.trans (st7 _ (Steps.refl _))
      have c9 : Steps p.tables e below (s₁.setTop (entryFrame m #[.ref b, .int (Int32.ofNat o), .ref d, .int (Int32.ofNat q), .int (Int32.ofNat len)] 7)) (T7.setTop (mkF m 3 #[.val (.ref b), .val (.int (Int32.ofNat (o + i) + 1)), .val (.ref d), .val (.int (Int32.ofNat (q + i) + 1)), .val (.int (Int32.ofNat len)), .val (.int (Int32.ofNat i + 1)), .val (.int (cv A (o + i)))] [])) := c8.trans (by
        refine iincV X7.here hexec rfl 1 (hb hbytes d32) (by decide) rfl rfl ?_
        refine iincV X7.here hexec rfl 1 (hb hbytes d35) (by decide) rfl rfl ?_
        refine iincV X7.here hexec rfl 1 (hb hbytes d38) (by decide) rfl rfl ?_
        refine XS.goto X7.here hexec rfl (pc0 := 41) rfl (hb hbytes d41) (by decide) rfl ?_
        exact Steps.refl _)
      have c10 : Steps p.tables e below (s₁.setTop (entryFrame m #[.ref b, .int (Int32.ofNat o), .ref d, .int (Int32.ofNat q), .int (Int32.ofNat len)] 7)) (T7.setTop (mkF m 3 #[.val (.ref b), .val (.int (Int32.ofNat (o + (i + 1)))), .val (.ref d), .val (.int (Int32.ofNat (q + (i + 1)))), .val (.int (Int32.ofNat len)), .val (.int (Int32.ofNat (i + 1))), .val (.int (cv A (o + i)))] [])) := by
        have := c9
        rw [succ32, succ32, succ32] at this
        exact this
      exact ih (i + 1) (by omega) _ (Or.inr ⟨_, rfl, rfl⟩) T7 _ (by rw [copyLocs_step, ← List.append_assoc]; exact X7) (pl.trans p7) (fl.step (by omega) hlt (by simp)) c10
  obtain ⟨T9, B9, z9, X9, p9, f9, g9⟩ := loop len 0 (by omega) .unset (Or.inl rfl) s₁ B (by simpa [copyLocs] using X0) ⟨hB0.1, fun _ _ => rfl, rfl⟩ (Laid.zero _ _ _) c2
  have c11 : Steps p.tables e below (s₁.setTop (entryFrame m #[.ref b, .int (Int32.ofNat o), .ref d, .int (Int32.ofNat q), .int (Int32.ofNat len)] 7)) (T9.setTop (mkF m 46 #[.val (.ref b), .val (.int (Int32.ofNat (o + len))), .val (.ref d), .val (.int (Int32.ofNat (q + len))), .val (.int (Int32.ofNat len)), .val (.int (Int32.ofNat len)), z9] [.int (Int32.ofNat len)])) := g9.trans (by
    refine XS.iload X9.here hexec rfl (hb hbytes d3) rfl ?_
    refine XS.iload X9.here hexec rfl (hb hbytes d5) rfl ?_
    refine XS.icmpYes X9.here hexec rfl (pc0 := 7) rfl (hb hbytes d7) rfl (ii_ge_t (nlt32 (by omega) (Nat.le_refl _))) (by decide) rfl ?_
    refine XS.iload X9.here hexec rfl (hb hbytes d44) rfl ?_
    exact Steps.refl _)
  exact ⟨T9, some (.int (Int32.ofNat len)), _, _, _, X9, by simp, rfl, rfl, (fun h => by cases h), ⟨rfl, B9, p9.from hh0, f9⟩, fun fs hl => c11.trans (X9.ireturnOut hexec hret rfl (Or.inl rfl) (hb hbytes d46) hl)⟩
end Cmp5
namespace Cmp3
def yN : MethodName := ⟨"java/lang/StringUTF16", "compress", "([CII)[B"⟩
abbrev yB : ByteArray := jdk_52_method_16_code
theorem d0 : decode yB 0 = .ok (.iload_n 2, 1) := by decide +kernel
theorem d1 : decode yB 1 = .ok (.newarray .byte, 2) := by decide +kernel
theorem d3 : decode yB 3 = .ok (.astore_n 3, 1) := by decide +kernel
theorem d4 : decode yB 4 = .ok (.aload_n 0, 1) := by decide +kernel
theorem d5 : decode yB 5 = .ok (.iload_n 1, 1) := by decide +kernel
theorem d6 : decode yB 6 = .ok (.aload_n 3, 1) := by decide +kernel
theorem d7 : decode yB 7 = .ok (.iconst 0, 1) := by decide +kernel
theorem d8 : decode yB 8 = .ok (.iload_n 2, 1) := by decide +kernel
theorem d9 : decode yB 9 = .ok (.invokestatic 115, 3) := by decide +kernel
theorem d12 : decode yB 12 = .ok (.istore 4, 2) := by decide +kernel
theorem d14 : decode yB 14 = .ok (.iload 4, 2) := by decide +kernel
theorem d16 : decode yB 16 = .ok (.iload_n 2, 1) := by decide +kernel
theorem d17 : decode yB 17 = .ok (.if_icmp (.eq) 40, 3) := by decide +kernel
theorem d57 : decode yB 57 = .ok (.aload_n 3, 1) := by decide +kernel
theorem d58 : decode yB 58 = .ok (.areturn, 1) := by decide +kernel
def site : List Cond := [.arrayClass .byte, Cmp5.tab] ++ staticW U16 115 Cmp5.yN
def tab : Cond := tabOf yN yB 6 (some (.array .byte)) site
def P (b : Addr) (A : Cell) (o len : Nat) (args : Array Value) (s : State) : Prop := args = #[.ref b, .int (Int32.ofNat o), .int (Int32.ofNat len)] ∧ Ch b A s ∧ o + len ≤ A.slots.size ∧ len ≤ 536870912 ∧ ∀ i, i < len → ¬ 255 < cv A (o + i)
def E (b : Addr) (A : Cell) (o len : Nat) (r : Option Value) (s u : State) : Prop := NewArr .byte "[B" len (fun j => .int (lo8 (cv A (o + j)))) r s u ∧ u.heap.size = s.heap.size + 1
/-- no char of the range above 255: a new byte[] of their low bytes -/
theorem law (l : Launch) (b : Addr) (A : Cell) (o len : Nat) : Law l yN 3 3 1 18 yB 6 (some (.array .byte)) site (P b A o len) (E b A o len) [] 1 len := by
  refine Law.of_walk (plainFor_of_name (by decide +kernel)) (by decide +kernel) (by decide +kernel) (by decide) (fun _ _ h => by rw [h.1]; rfl) (fun _ U U' hal hh h => ⟨h.1, h.2.1.mv hal hh, h.2.2⟩) (fun r U U' V V' h1 hal h2 h => ⟨NewArr.mv r U U' V V' h1 hal h2 h.1, by rw [h1, h2]; exact h.2⟩) ?_
  intro p e s m args below meth c s₁ X0 hexec hbytes hml hret hlk hnm hown hh0 W hP
  obtain ⟨rfl, hA, l1, l2, hp⟩ := hP
  have a31 := hA.1.2.2.2
  have c1 : Steps p.tables e below (s₁.setTop (entryFrame m #[.ref b, .int (Int32.ofNat o), .int (Int32.ofNat len)] 6)) (s₁.setTop (mkF m 0 #[.val (.ref b), .val (.int (Int32.ofNat o)), .val (.int (Int32.ofNat len)), .unset, .unset, .unset] [])) := entry rfl
  have c2 : Steps p.tables e below (s₁.setTop (entryFrame m #[.ref b, .int (Int32.ofNat o), .int (Int32.ofNat len)] 6)) (s₁.setTop (mkF m 1 #[.val (.ref b), .val (.int (Int32.ofNat o)), .val (.int (Int32.ofNat len)), .unset, .unset, .unset] [.int (Int32.ofNat len)])) := c1.trans (by
    refine XS.iloadN X0.here hexec rfl (hb hbytes d0) rfl ?_
    exact Steps.refl _)
  obtain ⟨T3, B3, X3, ba3, bs3, bv3, bh3, bf3, st3⟩ := X0.anew hexec (atype := .byte) (wk W (.arrayClass .byte)) rfl (by show len * 1 ≤ _; omega) (by omega) (g := (mkF m 1 #[.val (.ref b), .val (.int (Int32.ofNat o)), .val (.int (Int32.ofNat len)), .unset, .unset, .unset] [.int (Int32.ofNat len)])) rfl (hb hbytes d1) (rest := []) rfl (Nat.le_refl _) (by show 0 + len ≤ len; omega)
  rw [hh0] at ba3 st3
  have kp3 : XT.Kept s T3 := (XT.Kept.of_eq hh0).push bh3
  have hA3 := hA.keep X3.warmed.alike (kp3 _ _ hA.1.1)
  have hne : b ≠ s.heap.size := hA.1.ne
  have c4 : Steps p.tables e below (s₁.setTop (entryFrame m #[.ref b, .int (Int32.ofNat o), .int (Int32.ofNat len)] 6)) (T3.setTop (mkF m 3 #[.val (.ref b), .val (.int (Int32.ofNat o)), .val (.int (Int32.ofNat len)), .unset, .unset, .unset] [.ref s.heap.size])) := c2.trans (st3 _ (Steps.refl _))
  have c5 : Steps p.tables e below (s₁.setTop (entryFrame m #[.ref b, .int (Int32.ofNat o), .int (Int32.ofNat len)] 6)) (T3.setTop (mkF m 9 #[.val (.ref b), .val (.int (Int32.ofNat o)), .val (.int (Int32.ofNat len)), .val (.ref s.heap.size), .unset, .unset] [.int (Int32.ofNat len), .int 0, .ref s.heap.size, .int (Int32.ofNat o), .ref b])) := c4.trans (by
    refine XS.astoreN X3.here hexec rfl (hb hbytes d3) rfl rfl rfl ?_
    refine XS.aloadN X3.here hexec rfl (hb hbytes d4) rfl rfl ?_
    refine XS.iloadN X3.here hexec rfl (hb hbytes d5) rfl ?_
    refine XS.aloadN X3.here hexec rfl (hb hbytes d6) rfl rfl ?_
    refine iconstV X3.here hexec rfl 0 (hb hbytes d7) (by decide) ?_
    refine XS.iloadN X3.here hexec rfl (hb hbytes d8) rfl ?_
    exact Steps.refl _)
  obtain ⟨v6, T6, X6, E6, g6⟩ := X3.callS hexec (Cmp5.law l b A s.heap.size B3 o 0 len) hown (wks W (staticW U16 115 Cmp5.yN)) (wk W Cmp5.tab) (W := 0) (Nat.le_of_ble_eq_true rfl) (Nat.le_of_ble_eq_true rfl) (Nat.le_refl _) (by show 0 + len + 0 ≤ len; omega) (g := (mkF m 9 #[.val (.ref b), .val (.int (Int32.ofNat o)), .val (.int (Int32.ofNat len)), .val (.ref s.heap.size), .unset, .unset] [.int (Int32.ofNat len), .int (Int32.ofNat 0), .ref s.heap.size, .int (Int32.ofNat o), .ref b])) rfl (by rw [hml]; rfl) c5 (argsL := [.ref b, .int (Int32.ofNat o), .ref s.heap.size, .int (Int32.ofNat 0), .int (Int32.ofNat len)]) (rest := []) rfl rfl (by show 2 * 0 + 0 ≤ _; decide) (hb hbytes d9) (⟨rfl, hA3, ba3, hne, l1, by rw [bs3]; simp, hp⟩)
  obtain ⟨rfl, B6, p6, f6⟩ := E6
  have c7 : Steps p.tables e below (s₁.setTop (entryFrame m #[.ref b, .int (Int32.ofNat o), .int (Int32.ofNat len)] 6)) (T6.setTop (mkF m 12 #[.val (.ref b), .val (.int (Int32.ofNat o)), .val (.int (Int32.ofNat len)), .val (.ref s.heap.size), .unset, .unset] [.int (Int32.ofNat len)])) := g6
  have c8 : Steps p.tables e below (s₁.setTop (entryFrame m #[.ref b, .int (Int32.ofNat o), .int (Int32.ofNat len)] 6)) (T6.setTop (mkF m 58 #[.val (.ref b), .val (.int (Int32.ofNat o)), .val (.int (Int32.ofNat len)), .val (.ref s.heap.size), .val (.int (Int32.ofNat len)), .unset] [.ref s.heap.size])) := c7.trans (by
    refine XS.istore X6.here hexec rfl (hb hbytes d12) rfl rfl ?_
    refine XS.iload X6.here hexec rfl (hb hbytes d14) rfl ?_
    refine XS.iloadN X6.here hexec rfl (hb hbytes d16) rfl ?_
    refine XS.icmpYes X6.here hexec rfl (pc0 := 17) rfl (hb hbytes d17) rfl (ii_eq_t rfl) (by decide) rfl ?_
    refine XS.aloadN X6.here hexec rfl (hb hbytes d57) rfl rfl ?_
    exact Steps.refl _)
  have X8 := X6.wide (L' := []) (cells' := 1) (slots' := len) (fun x hx hlt => by
    simp only [List.nil_append, copyLocs, List.mem_map, List.mem_range] at hx
    obtain ⟨i, -, rfl⟩ := hx
    exact absurd hlt (Nat.lt_irrefl _)) (Nat.le_refl _) (by omega)
  exact ⟨T6, some (.ref s.heap.size), _, _, _, X8, rfl, rfl, rfl, (fun h => by cases h), ⟨⟨rfl, B6, ba3.like (X3.warmed.alike.symm.trans X6.warmed.alike) p6.1 f6.1 f6.2.1 f6.2.2.1, f6.2.1.trans bv3, by rw [X6.warmed.alike.findClass, f6.1]; exact bf3, by rw [f6.2.2.1, bs3]; simp, fun j hj => by rw [f6.2.2.2 j, if_pos (by omega)]; rfl, kp3.put p6 (Nat.le_refl _)⟩, by rw [p6.2.2, bh3, hh0]; simp⟩, fun fs hl => c8.trans (X8.areturnOut hexec rfl hret rfl (hb hbytes d58) hl)⟩
end Cmp3
namespace CodL
def yN : MethodName := ⟨"java/lang/StringUTF16", "coderFromArrayLen", "([BI)B"⟩
abbrev yB : ByteArray := jdk_52_method_15_code
theorem d0 : decode yB 0 = .ok (.iload_n 1, 1) := by decide +kernel
theorem d1 : decode yB 1 = .ok (.aload_n 0, 1) := by decide +kernel
theorem d2 : decode yB 2 = .ok (.arraylength, 1) := by decide +kernel
theorem d3 : decode yB 3 = .ok (.isub, 1) := by decide +kernel
theorem d4 : decode yB 4 = .ok (.bipush 31, 2) := by decide +kernel
theorem d6 : decode yB 6 = .ok (.iushr, 1) := by decide +kernel
theorem d7 : decode yB 7 = .ok (.i2b, 1) := by decide +kernel
theorem d8 : decode yB 8 = .ok (.ireturn, 1) := by decide +kernel
def site : List Cond := []
def tab : Cond := tabOf yN yB 2 (some .byte) site
def P (d : Addr) (B : Cell) (args : Array Value) (s : State) : Prop := args = #[.ref d, .int (Int32.ofNat B.slots.size)] ∧ Arr .byte d B s
def E (r : Option Value) (s u : State) : Prop := XT.PureE (some (.int 0)) r s u
/-- an array as long as the number of chars: LATIN1 -/
theorem law (l : Launch) (d : Addr) (B : Cell) : Law l yN 2 2 0 0 yB 2 (some .byte) site (P d B) E [] 0 0 := by
  refine Law.of_walk (plainFor_of_name (by decide +kernel)) (by decide +kernel) (by decide +kernel) (by decide) (fun _ _ h => by rw [h.1]; rfl) (fun _ U U' hal hh h => ⟨h.1, h.2.mv hal hh⟩) (fun r U U' V V' h1 hal h2 h => XT.PureE.mv r U U' V V' h1 hal h2 h) ?_
  intro p e s m args below meth c s₁ X0 hexec hbytes hml hret hlk hnm hown hh0 W hP
  obtain ⟨rfl, hB⟩ := hP
  have hB0 := hB.mv X0.warmed.alike hh0
  have c1 : Steps p.tables e below (s₁.setTop (entryFrame m #[.ref d, .int (Int32.ofNat B.slots.size)] 2)) (s₁.setTop (mkF m 0 #[.val (.ref d), .val (.int (Int32.ofNat B.slots.size))] [])) := entry rfl
  have c2 : Steps p.tables e below (s₁.setTop (entryFrame m #[.ref d, .int (Int32.ofNat B.slots.size)] 2)) (s₁.setTop (mkF m 2 #[.val (.ref d), .val (.int (Int32.ofNat B.slots.size))] [.ref d, .int (Int32.ofNat B.slots.size)])) := c1.trans (by
    refine XS.iloadN X0.here hexec rfl (hb hbytes d0) rfl ?_
    refine XS.aloadN X0.here hexec rfl (hb hbytes d1) rfl rfl ?_
    exact Steps.refl _)
  have c3 : Steps p.tables e below (s₁.setTop (entryFrame m #[.ref d, .int (Int32.ofNat B.slots.size)] 2)) (s₁.setTop (mkF m 8 #[.val (.ref d), .val (.int (Int32.ofNat B.slots.size))] [.int (lo8 (ushr (Int32.ofNat B.slots.size - Int32.ofNat B.slots.size) 31))])) := c2.trans (by
    refine X0.alen hexec hB0 rfl rfl (hb hbytes d2) ?_
    refine XS.isub X0.here hexec rfl (hb hbytes d3) rfl ?_
    refine bipushV X0.here hexec rfl 31 (hb hbytes d4) (by decide) ?_
    refine iushr X0.here hexec rfl (hb hbytes d6) rfl ?_
    refine i2b X0.here hexec rfl (hb hbytes d7) rfl ?_
    exact Steps.refl _)
  have e0 : lo8 (ushr (Int32.ofNat B.slots.size - Int32.ofNat B.slots.size) 31) = 0 := by rw [Int32.sub_self]; decide
  rw [e0] at c3
  exact ⟨s₁, some (.int 0), _, _, _, X0, rfl, rfl, rfl, (fun h => by cases h), ⟨rfl, hh0⟩, fun fs hl => c3.trans (X0.ireturnOut hexec hret rfl (Or.inr (Or.inr (Or.inl rfl))) (hb hbytes d8) hl)⟩
end CodL
/-- the String at a is Latin-1 over a new byte[] (the heap's one new cell): the low bytes of the len chars of A from o on; every cell but a is kept -/
def Got (a : Addr) (D : Cell) (fV fC : Field) (A : Cell) (o len : Nat) (r : Option Value) (s u : State) : Prop := r = none ∧ ∃ D' V : Cell, Blank "java/lang/String" a D' u ∧ Same D D' [fV.slot, fC.slot] ∧ D'.slots[fV.slot]? = some (.ref s.heap.size) ∧ D'.slots[fC.slot]? = some (.int 0) ∧ Arr .byte s.heap.size V u ∧ V.vm = .none ∧ u.vm.findClass "[B" = some V.cls ∧ V.slots.size = len ∧ (∀ j, j < len → V.slots[j]? = some (.int (lo8 (cv A (o + j))))) ∧ (∀ (y : Addr) (c : Cell), y ≠ a → s.heap[y]? = some c → u.heap[y]? = some c) ∧ u.heap.size = s.heap.size + 1
theorem Got.mv {a : Addr} {D A : Cell} {fV fC : Field} {o len : Nat} : ∀ r (U U' V V' : State), U'.heap = U.heap → V.vm.Alike V'.vm → V'.heap = V.heap → Got a D fV fC A o len r U V → Got a D fV fC A o len r U' V' :=
  fun r U U' V V' h1 hal h2 ⟨e0, D', X, a1, a2, a3, a4, a5, a6, a7, a8, a9, a10, a11⟩ => ⟨e0, D', X, a1.mv hal h2, a2, by rw [h1]; exact a3, a4, by rw [h1]; exact a5.mv hal h2, a6, by rw [hal.findClass]; exact a7, a8, a9, by rw [h1, h2]; exact a10, by rw [h1, h2]; exact a11⟩
namespace New4
def yN : MethodName := ⟨"java/lang/String", "<init>", "([CIILjava/lang/Void;)V"⟩
abbrev yB : ByteArray := jdk_42_method_149_code
theorem d0 : decode yB 0 = .ok (.aload_n 0, 1) := by decide +kernel
theorem d1 : decode yB 1 = .ok (.invokespecial 1, 3) := by decide +kernel
theorem d4 : decode yB 4 = .ok (.iload_n 3, 1) := by decide +kernel
theorem d5 : decode yB 5 = .ok (.ifCond (.ne) 22, 3) := by decide +kernel
theorem d27 : decode yB 27 = .ok (.getstatic 38, 3) := by decide +kernel
theorem d30 : decode yB 30 = .ok (.ifCond (.eq) 28, 3) := by decide +kernel
theorem d33 : decode yB 33 = .ok (.aload_n 1, 1) := by decide +kernel
theorem d34 : decode yB 34 = .ok (.iload_n 2, 1) := by decide +kernel
theorem d35 : decode yB 35 = .ok (.iload_n 3, 1) := by decide +kernel
theorem d36 : decode yB 36 = .ok (.invokestatic 177, 3) := by decide +kernel
theorem d39 : decode yB 39 = .ok (.astore 5, 2) := by decide +kernel
theorem d41 : decode yB 41 = .ok (.aload_n 0, 1) := by decide +kernel
theorem d42 : decode yB 42 = .ok (.aload 5, 2) := by decide +kernel
theorem d44 : decode yB 44 = .ok (.iload_n 3, 1) := by decide +kernel
theorem d45 : decode yB 45 = .ok (.invokestatic 47, 3) := by decide +kernel
theorem d48 : decode yB 48 = .ok (.putfield 15, 3) := by decide +kernel
theorem d51 : decode yB 51 = .ok (.aload_n 0, 1) := by decide +kernel
theorem d52 : decode yB 52 = .ok (.aload 5, 2) := by decide +kernel
theorem d54 : decode yB 54 = .ok (.putfield 9, 3) := by decide +kernel
theorem d57 : decode yB 57 = .ok (.return_, 1) := by decide +kernel
def site : List Cond := [.fieldLink "java/lang/String" 38 "java/lang/String" "COMPACT_STRINGS" "Z", Cmp3.tab, CodL.tab, .laysFinal "java/lang/String" "java/lang/String" "value" "[B", .fieldLink "java/lang/String" 9 "java/lang/String" "value" "[B", .laysFinal "java/lang/String" "java/lang/String" "coder" "B", .fieldLink "java/lang/String" 15 "java/lang/String" "coder" "B"] ++ objW "java/lang/String" 1 ++ staticW "java/lang/String" 177 Cmp3.yN ++ staticW "java/lang/String" 47 CodL.yN
def tab : Cond := tabOf yN yB 6 none site
def P (a : Addr) (D : Cell) (fV fC : Field) (b : Addr) (A : Cell) (z : Int32) (o len : Nat) (args : Array Value) (s : State) : Prop := args = #[.ref a, .ref b, .int (Int32.ofNat o), .int (Int32.ofNat len), .null] ∧ Blank "java/lang/String" a D s ∧ Found "java/lang/String" "value" "[B" fV s ∧ Found "java/lang/String" "coder" "B" fC s ∧ Ch b A s ∧ StaticIs s "java/lang/String" "COMPACT_STRINGS" "Z" (.int z) ∧ ¬ z = 0 ∧ 0 < len ∧ o + len ≤ A.slots.size ∧ len ≤ 536870912 ∧ ∀ i, i < len → ¬ 255 < cv A (o + i)
def E (a : Addr) (D : Cell) (fV fC : Field) (A : Cell) (o len : Nat) (r : Option Value) (s u : State) : Prop := Got a D fV fC A o len r s u
/-- len > 0, no char of the range above 255: a Latin-1 String of their low bytes -/
theorem law (l : Launch) (a : Addr) (D : Cell) (fV fC : Field) (b : Addr) (A : Cell) (z : Int32) (o len : Nat) : Law l yN 5 4 2 35 yB 6 none site (P a D fV fC b A z o len) (E a D fV fC A o len) [⟨a, fC.slot⟩, ⟨a, fV.slot⟩] 1 len := by
  refine Law.of_walk (plainFor_of_name (by decide +kernel)) (by decide +kernel) (by decide +kernel) (by decide) (fun _ _ h => by rw [h.1]; rfl) (fun _ U U' hal hh h => ⟨h.1, h.2.1.mv hal hh, h.2.2.1.al hal, h.2.2.2.1.al hal, h.2.2.2.2.1.mv hal hh, h.2.2.2.2.2.1.there hal hh, h.2.2.2.2.2.2⟩) (fun r U U' V V' h1 hal h2 h => Got.mv r U U' V V' h1 hal h2 h) ?_
  intro p e s m args below meth c s₁ X0 hexec hbytes hml hret hlk hnm hown hh0 W hP
  obtain ⟨rfl, hB, f1, f2, hA, s1, hz, l0, l1, l2, hp⟩ := hP
  have a31 := hA.1.2.2.2
  have c1 : Steps p.tables e below (s₁.setTop (entryFrame m #[.ref a, .ref b, .int (Int32.ofNat o), .int (Int32.ofNat len), .null] 6)) (s₁.setTop (mkF m 0 #[.val (.ref a), .val (.ref b), .val (.int (Int32.ofNat o)), .val (.int (Int32.ofNat len)), .val .null, .unset] [])) := entry rfl
  have c2 : Steps p.tables e below (s₁.setTop (entryFrame m #[.ref a, .ref b, .int (Int32.ofNat o), .int (Int32.ofNat len), .null] 6)) (s₁.setTop (mkF m 1 #[.val (.ref a), .val (.ref b), .val (.int (Int32.ofNat o)), .val (.int (Int32.ofNat len)), .val .null, .unset] [.ref a])) := c1.trans (by
    refine XS.aloadN X0.here hexec rfl (hb hbytes d0) rfl rfl ?_
    exact Steps.refl _)
  obtain ⟨T3, X3, q3, st3⟩ := X0.oinit hexec hown (wks W (objW "java/lang/String" 1)) (g := (mkF m 1 #[.val (.ref a), .val (.ref b), .val (.int (Int32.ofNat o)), .val (.int (Int32.ofNat len)), .val .null, .unset] [.ref a])) rfl (by rw [hml]; rfl) (rest := []) rfl (hb hbytes d1) (W := 0) (by show 2 * 0 + 0 ≤ _; decide) (Nat.le_of_ble_eq_true rfl) (Nat.le_of_ble_eq_true rfl)
  have hh3 := q3.trans hh0
  have c4 : Steps p.tables e below (s₁.setTop (entryFrame m #[.ref a, .ref b, .int (Int32.ofNat o), .int (Int32.ofNat len), .null] 6)) (T3.setTop (mkF m 27 #[.val (.ref a), .val (.ref b), .val (.int (Int32.ofNat o)), .val (.int (Int32.ofNat len)), .val .null, .unset] [])) := (c2.trans (st3 _ (Steps.refl _))).trans (by
    refine XS.iloadN X3.here hexec rfl (hb hbytes d4) rfl ?_
    refine XS.ifYes X3.here hexec rfl (pc0 := 5) rfl (hb hbytes d5) rfl (i0_ne_t (nz32 (by omega) l0)) (by decide) rfl ?_
    exact Steps.refl _)
  obtain ⟨T5, X5, q5, st5⟩ := X3.sget hexec hown (wk W (.fieldLink "java/lang/String" 38 "java/lang/String" "COMPACT_STRINGS" "Z")) s1 (fun _ _ h => by rw [hh3]; exact h) (g := (mkF m 27 #[.val (.ref a), .val (.ref b), .val (.int (Int32.ofNat o)), .val (.int (Int32.ofNat len)), .val .null, .unset] [])) rfl (hb hbytes d27)
  have hh5 := q5.trans hh3
  have c6 : Steps p.tables e below (s₁.setTop (entryFrame m #[.ref a, .ref b, .int (Int32.ofNat o), .int (Int32.ofNat len), .null] 6)) (T5.setTop (mkF m 30 #[.val (.ref a), .val (.ref b), .val (.int (Int32.ofNat o)), .val (.int (Int32.ofNat len)), .val .null, .unset] [.int z])) := c4.trans (st5 _ (Steps.refl _))
  have c7 : Steps p.tables e below (s₁.setTop (entryFrame m #[.ref a, .ref b, .int (Int32.ofNat o), .int (Int32.ofNat len), .null] 6)) (T5.setTop (mkF m 36 #[.val (.ref a), .val (.ref b), .val (.int (Int32.ofNat o)), .val (.int (Int32.ofNat len)), .val .null, .unset] [.int (Int32.ofNat len), .int (Int32.ofNat o), .ref b])) := c6.trans (by
    refine XS.ifNo X5.here hexec rfl (hb hbytes d30) rfl (i0_eq_f hz) ?_
    refine XS.aloadN X5.here hexec rfl (hb hbytes d33) rfl rfl ?_
    refine XS.iloadN X5.here hexec rfl (hb hbytes d34) rfl ?_
    refine XS.iloadN X5.here hexec rfl (hb hbytes d35) rfl ?_
    exact Steps.refl _)
  obtain ⟨v8, T8, X8, E8, g8⟩ := X5.callS hexec (Cmp3.law l b A o len) hown (wks W (staticW "java/lang/String" 177 Cmp3.yN)) (wk W Cmp3.tab) (W := 0) (Nat.le_of_ble_eq_true rfl) (Nat.le_of_ble_eq_true rfl) (Nat.le_refl _) (by show 0 + len ≤ len; omega) (g := (mkF m 36 #[.val (.ref a), .val (.ref b), .val (.int (Int32.ofNat o)), .val (.int (Int32.ofNat len)), .val .null, .unset] [.int (Int32.ofNat len), .int (Int32.ofNat o), .ref b])) rfl (by rw [hml]; rfl) c7 (argsL := [.ref b, .int (Int32.ofNat o), .int (Int32.ofNat len)]) (rest := []) rfl rfl (by show 2 * 0 + 0 ≤ _; decide) (hb hbytes d36) (⟨rfl, hA.mv X5.warmed.alike hh5, l1, l2, hp⟩)
  obtain ⟨e8, z8⟩ := E8
  obtain ⟨rfl, N, n1, n2, n3, n4, n5, n6⟩ := NewArr.mv _ T5 s _ _ hh5.symm (Vm.Alike.refl _) rfl e8
  rw [hh5] at z8
  have hB1 := hB.keep X8.warmed.alike (n6 _ _ hB.1)
  have hne : s.heap.size ≠ a := (Nat.ne_of_lt (Array.getElem?_eq_some_iff.mp hB.1).1).symm
  have c9 : Steps p.tables e below (s₁.setTop (entryFrame m #[.ref a, .ref b, .int (Int32.ofNat o), .int (Int32.ofNat len), .null] 6)) (T8.setTop (mkF m 39 #[.val (.ref a), .val (.ref b), .val (.int (Int32.ofNat o)), .val (.int (Int32.ofNat len)), .val .null, .unset] [.ref s.heap.size])) := g8
  have c10 : Steps p.tables e below (s₁.setTop (entryFrame m #[.ref a, .ref b, .int (Int32.ofNat o), .int (Int32.ofNat len), .null] 6)) (T8.setTop (mkF m 45 #[.val (.ref a), .val (.ref b), .val (.int (Int32.ofNat o)), .val (.int (Int32.ofNat len)), .val .null, .val (.ref s.heap.size)] [.int (Int32.ofNat N.slots.size), .ref s.heap.size, .ref a])) := by
    have hc : Steps p.tables e below (s₁.setTop (entryFrame m #[.ref a, .ref b, .int (Int32.ofNat o), .int (Int32.ofNat len), .null] 6)) (T8.setTop (mkF m 45 #[.val (.ref a), .val (.ref b), .val (.int (Int32.ofNat o)), .val (.int (Int32.ofNat len)), .val .null, .val (.ref s.heap.size)] [.int (Int32.ofNat len), .ref s.heap.size, .ref a])) := c9.trans (by
      refine XS.astore X8.here hexec rfl (hb hbytes d39) rfl rfl rfl ?_
      refine XS.aloadN X8.here hexec rfl (hb hbytes d41) rfl rfl ?_
      refine XS.aload X8.here hexec rfl (hb hbytes d42) rfl rfl ?_
      refine XS.iloadN X8.here hexec rfl (hb hbytes d44) rfl ?_
      exact Steps.refl _)
    rw [n4]; exact hc
  obtain ⟨v11, T11, X11, E11, g11⟩ := X8.callS hexec (CodL.law l s.heap.size N) hown (wks W (staticW "java/lang/String" 47 CodL.yN)) (wk W CodL.tab) (W := 1) (Nat.le_of_ble_eq_true rfl) (Nat.le_of_ble_eq_true rfl) (Nat.le_refl _) (by show 0 + len + 0 ≤ len; omega) (g := (mkF m 45 #[.val (.ref a), .val (.ref b), .val (.int (Int32.ofNat o)), .val (.int (Int32.ofNat len)), .val .null, .val (.ref s.heap.size)] [.int (Int32.ofNat N.slots.size), .ref s.heap.size, .ref a])) rfl (by rw [hml]; rfl) c10 (argsL := [.ref s.heap.size, .int (Int32.ofNat N.slots.size)]) (rest := [.ref a]) rfl rfl (by show 2 * 0 + (1 + 0) ≤ _; decide) (hb hbytes d45) (⟨rfl, n1⟩)
  obtain ⟨rfl, q11⟩ := E11
  have hB11 := hB1.mv (X8.warmed.alike.symm.trans X11.warmed.alike) q11
  have c12 : Steps p.tables e below (s₁.setTop (entryFrame m #[.ref a, .ref b, .int (Int32.ofNat o), .int (Int32.ofNat len), .null] 6)) (T11.setTop (mkF m 48 #[.val (.ref a), .val (.ref b), .val (.int (Int32.ofNat o)), .val (.int (Int32.ofNat len)), .val .null, .val (.ref s.heap.size)] [.int 0, .ref a])) := g11
  obtain ⟨T13, X13, p13, bl13, sl13, st13⟩ := X11.finit hexec hown (wk W (.fieldLink "java/lang/String" 15 "java/lang/String" "coder" "B")) (Or.inr ⟨_, (wk W (.laysFinal "java/lang/String" "java/lang/String" "coder" "B"))⟩) (Or.inl ⟨rfl, hnm⟩) f2 (Or.inl rfl) hB11 (t := .byte) (by decide +kernel) rfl (g := (mkF m 48 #[.val (.ref a), .val (.ref b), .val (.int (Int32.ofNat o)), .val (.int (Int32.ofNat len)), .val .null, .val (.ref s.heap.size)] [.int 0, .ref a])) rfl (rest := []) rfl (hb hbytes d48)
  have c14 : Steps p.tables e below (s₁.setTop (entryFrame m #[.ref a, .ref b, .int (Int32.ofNat o), .int (Int32.ofNat len), .null] 6)) (T13.setTop (mkF m 54 #[.val (.ref a), .val (.ref b), .val (.int (Int32.ofNat o)), .val (.int (Int32.ofNat len)), .val .null, .val (.ref s.heap.size)] [.ref s.heap.size, .ref a])) := (c12.trans (st13 _ (Steps.refl _))).trans (by
    refine XS.aloadN X13.here hexec rfl (hb hbytes d51) rfl rfl ?_
    refine XS.aload X13.here hexec rfl (hb hbytes d52) rfl rfl ?_
    exact Steps.refl _)
  obtain ⟨T15, X15, p15, bl15, sl15, st15⟩ := X13.finit hexec hown (wk W (.fieldLink "java/lang/String" 9 "java/lang/String" "value" "[B")) (Or.inr ⟨_, (wk W (.laysFinal "java/lang/String" "java/lang/String" "value" "[B"))⟩) (Or.inl ⟨rfl, hnm⟩) f1 (Or.inl rfl) bl13 (t := (.array .byte)) (by decide +kernel) rfl (g := (mkF m 54 #[.val (.ref a), .val (.ref b), .val (.int (Int32.ofNat o)), .val (.int (Int32.ofNat len)), .val .null, .val (.ref s.heap.size)] [.ref s.heap.size, .ref a])) rfl (rest := []) rfl (hb hbytes d54)
  have c16 : Steps p.tables e below (s₁.setTop (entryFrame m #[.ref a, .ref b, .int (Int32.ofNat o), .int (Int32.ofNat len), .null] 6)) (T15.setTop (mkF m 57 #[.val (.ref a), .val (.ref b), .val (.int (Int32.ofNat o)), .val (.int (Int32.ofNat len)), .val .null, .val (.ref s.heap.size)] [])) := c14.trans (st15 _ (Steps.refl _))
  have ap := apart (Or.inr ⟨_, (wk W (.laysFinal "java/lang/String" "java/lang/String" "value" "[B"))⟩) (Or.inr ⟨_, (wk W (.laysFinal "java/lang/String" "java/lang/String" "coder" "B"))⟩) f1 f2 (t₁ := .array .byte) (t₂ := .byte) (by decide +kernel) (by decide +kernel) (by decide)
  have al := X8.warmed.alike.symm.trans X15.warmed.alike
  have n7 : T11.heap[s.heap.size]? = some N := by rw [q11]; exact n1.1
  exact ⟨T15, none, _, _, _, X15, by simp, rfl, by omega, (fun _ => rfl), ⟨rfl, _, N, bl15, ((Same.refl D _).set _ (by simp)).set _ (by simp), sl15, (Cell.slots_setSlot_ne _ ap).trans sl13, n1.keep al (p15.other hne (p13.other hne n7)), n2, by rw [al.findClass]; exact n3, n4, n5, fun y c h1 h2 => p15.other h1 (p13.other h1 (by rw [q11]; exact n6 y c h2)), by rw [p15.2.2, p13.2.2, q11]; exact z8⟩, fun fs hl => c16.trans (X15.returnOut hexec hret (hb hbytes d57) hl)⟩
end New4
namespace New1
def yN : MethodName := ⟨"java/lang/String", "<init>", "([C)V"⟩
abbrev yB : ByteArray := jdk_42_method_3_code
theorem d0 : decode yB 0 = .ok (.aload_n 0, 1) := by decide +kernel
theorem d1 : decode yB 1 = .ok (.aload_n 1, 1) := by decide +kernel
theorem d2 : decode yB 2 = .ok (.iconst 0, 1) := by decide +kernel
theorem d3 : decode yB 3 = .ok (.aload_n 1, 1) := by decide +kernel
theorem d4 : decode yB 4 = .ok (.arraylength, 1) := by decide +kernel
theorem d5 : decode yB 5 = .ok (.aconst_null, 1) := by decide +kernel
theorem d6 : decode yB 6 = .ok (.invokespecial 27, 3) := by decide +kernel
theorem d9 : decode yB 9 = .ok (.return_, 1) := by decide +kernel
def site : List Cond := [New4.tab] ++ initW "java/lang/String" 27 New4.yN
def tab : Cond := tabOf yN yB 2 none site
def P (a : Addr) (D : Cell) (fV fC : Field) (b : Addr) (A : Cell) (z : Int32) (args : Array Value) (s : State) : Prop := args = #[.ref a, .ref b] ∧ Blank "java/lang/String" a D s ∧ Found "java/lang/String" "value" "[B" fV s ∧ Found "java/lang/String" "coder" "B" fC s ∧ Ch b A s ∧ StaticIs s "java/lang/String" "COMPACT_STRINGS" "Z" (.int z) ∧ ¬ z = 0 ∧ 0 < A.slots.size ∧ A.slots.size ≤ 536870912 ∧ ∀ i, i < A.slots.size → ¬ 255 < cv A i
def E (a : Addr) (D : Cell) (fV fC : Field) (A : Cell) (r : Option Value) (s u : State) : Prop := Got a D fV fC A 0 A.slots.size r s u
/-- new String(chars), not empty, no char above 255: a Latin-1 String of their low bytes -/
theorem law (l : Launch) (a : Addr) (D : Cell) (fV fC : Field) (b : Addr) (A : Cell) (z : Int32) : Law l yN 2 1 3 52 yB 2 none site (P a D fV fC b A z) (E a D fV fC A) [⟨a, fC.slot⟩, ⟨a, fV.slot⟩] 1 A.slots.size := by
  refine Law.of_walk (plainFor_of_name (by decide +kernel)) (by decide +kernel) (by decide +kernel) (by decide) (fun _ _ h => by rw [h.1]; rfl) (fun _ U U' hal hh h => ⟨h.1, h.2.1.mv hal hh, h.2.2.1.al hal, h.2.2.2.1.al hal, h.2.2.2.2.1.mv hal hh, h.2.2.2.2.2.1.there hal hh, h.2.2.2.2.2.2⟩) (fun r U U' V V' h1 hal h2 h => Got.mv r U U' V V' h1 hal h2 h) ?_
  intro p e s m args below meth c s₁ X0 hexec hbytes hml hret hlk hnm hown hh0 W hP
  obtain ⟨rfl, hB, f1, f2, hA, s1, hz, l0, l2, hp⟩ := hP
  have c1 : Steps p.tables e below (s₁.setTop (entryFrame m #[.ref a, .ref b] 2)) (s₁.setTop (mkF m 0 #[.val (.ref a), .val (.ref b)] [])) := entry rfl
  have c2 : Steps p.tables e below (s₁.setTop (entryFrame m #[.ref a, .ref b] 2)) (s₁.setTop (mkF m 6 #[.val (.ref a), .val (.ref b)] [.null, .int (Int32.ofNat A.slots.size), .int 0, .ref b, .ref a])) := c1.trans (by
    refine XS.aloadN X0.here hexec rfl (hb hbytes d0) rfl rfl ?_
    refine XS.aloadN X0.here hexec rfl (hb hbytes d1) rfl rfl ?_
    refine iconstV X0.here hexec rfl 0 (hb hbytes d2) (by decide) ?_
    refine XS.aloadN X0.here hexec rfl (hb hbytes d3) rfl rfl ?_
    refine X0.alen hexec (hA.1.mv X0.warmed.alike hh0) rfl rfl (hb hbytes d4) ?_
    refine XS.aconstNull X0.here hexec rfl (hb hbytes d5) ?_
    exact Steps.refl _)
  obtain ⟨v3, T3, X3, E3, g3⟩ := X0.callN hexec (New4.law l a D fV fC b A z 0 A.slots.size) rfl hown (wks W (initW "java/lang/String" 27 New4.yN)) (W New4.tab (by simp only [site, List.mem_cons, List.mem_append, true_or, or_true])) (W := 0) (Nat.le_of_ble_eq_true rfl) (Nat.le_of_ble_eq_true rfl) (Nat.le_refl _) (by show 0 + A.slots.size ≤ A.slots.size; omega) (g := (mkF m 6 #[.val (.ref a), .val (.ref b)] [.null, .int (Int32.ofNat A.slots.size), .int (Int32.ofNat 0), .ref b, .ref a])) rfl (by rw [hml]; rfl) c2 (argsL := [.ref b, .int (Int32.ofNat 0), .int (Int32.ofNat A.slots.size), .null]) (rest := []) rfl rfl (by show 2 * 0 + 0 ≤ _; decide) (hb hbytes d6) (⟨rfl, hB.mv X0.warmed.alike hh0, f1.al X0.warmed.alike, f2.al X0.warmed.alike, hA.mv X0.warmed.alike hh0, s1.there X0.warmed.alike hh0, hz, l0, by omega, l2, fun i hi => by rw [Nat.zero_add]; exact hp i hi⟩)
  have e0 := Got.mv _ s₁ s _ _ hh0.symm (Vm.Alike.refl _) rfl E3
  obtain rfl := e0.1
  have c4 : Steps p.tables e below (s₁.setTop (entryFrame m #[.ref a, .ref b] 2)) (T3.setTop (mkF m 9 #[.val (.ref a), .val (.ref b)] [])) := g3
  exact ⟨T3, none, _, _, _, X3, by simp, rfl, by omega, (fun _ => rfl), e0, fun fs hl => c4.trans (X3.returnOut hexec hret (hb hbytes d9) hl)⟩
theorem pays {l : Launch} {R : Room} {p : Program} {e : Env} {below : List Frame} {s : State} {sargs : Array Value} {len W : Nat} (a : Addr) (D : Cell) (fV fC : Field) (b : Addr) (A : Cell) (z : Int32) (htab : tab.before sargs s = true) (hfr : 4 ≤ R.frames) (hlo : W + 65 ≤ R.locals) :
    Back l R p e below s sargs yN len W (fun A₁ a₁ => A₁.cells + 1 ≤ R.cells ∧ A₁.slots + A.slots.size ≤ R.slots ∧ P a D fV fC b A z a₁ A₁.U) (fun A₁ _ v₁ B₁ => E a D fV fC A v₁ A₁.U B₁.U ∧ B₁.locs = A₁.locs ++ [⟨a, fC.slot⟩, ⟨a, fV.slot⟩] ∧ B₁.cells = A₁.cells + 1 ∧ B₁.slots = A₁.slots + A.slots.size) :=
  (law l a D fV fC b A z).pays htab hfr (by omega)
end New1
end StrChars
namespace StrChars.Road
open Jvm Sem ClassFile Op Lib Jvm.Stand Jvm.Free Jvm.Free.XT
open Jvm.Lib.Cold (StaticIs)
abbrev ST : String := "java/lang/String"
/-- every table word that New1's law asks, flat -/
abbrev words : List Jvm.Cond := [.code New1.yN New1.yB 2 none, .initialized ST, .methodLink ST 27 New4.yN, .instanceMethod New4.yN,
  .code New4.yN New4.yB 6 none, .fieldLink ST 38 ST "COMPACT_STRINGS" "Z", .laysFinal ST ST "value" "[B", .fieldLink ST 9 ST "value" "[B", .laysFinal ST ST "coder" "B", .fieldLink ST 15 ST "coder" "B",
  .methodLink ST 1 Lib.objectInit, .instanceMethod Lib.objectInit, .code Lib.objectInit ⟨#[0xb1]⟩ 1 none, .methodLink ST 177 Cmp3.yN, .static Cmp3.yN, .methodLink ST 47 CodL.yN, .static CodL.yN,
  .code Cmp3.yN Cmp3.yB 6 (some (.array .byte)), .initialized U16, .arrayClass .byte, .methodLink U16 115 Cmp5.yN, .static Cmp5.yN, .code Cmp5.yN Cmp5.yB 7 (some .int), .code CodL.yN CodL.yB 2 (some .byte)]
theorem tab_of {a : Array Value} {s : State} (h : ∀ w ∈ words, w.before a s = true) : New1.tab.before a s = true := by
  have h5 : Cmp5.tab.before a s = true := unparts (wk h (.code Cmp5.yN Cmp5.yB 7 (some .int))) (wks h (.initialized Cmp5.yN.cls :: Cmp5.site))
  have hc : CodL.tab.before a s = true := unparts (wk h (.code CodL.yN CodL.yB 2 (some .byte))) (wks h (.initialized CodL.yN.cls :: CodL.site))
  have q5 : ∀ w ∈ Cmp5.tab :: words, w.before a s = true := fun w hw => (List.mem_cons.mp hw).elim (fun e => e ▸ h5) (h w)
  have h3 : Cmp3.tab.before a s = true := unparts (wk q5 (.code Cmp3.yN Cmp3.yB 6 (some (.array .byte)))) (wks q5 (.initialized Cmp3.yN.cls :: Cmp3.site))
  have q3 : ∀ w ∈ Cmp3.tab :: CodL.tab :: words, w.before a s = true := fun w hw => (List.mem_cons.mp hw).elim (fun e => e ▸ h3) fun hw => (List.mem_cons.mp hw).elim (fun e => e ▸ hc) (h w)
  have h4 : New4.tab.before a s = true := unparts (wk q3 (.code New4.yN New4.yB 6 none)) (wks q3 (.initialized New4.yN.cls :: New4.site))
  have q4 : ∀ w ∈ New4.tab :: words, w.before a s = true := fun w hw => (List.mem_cons.mp hw).elim (fun e => e ▸ h4) (h w)
  exact unparts (wk q4 (.code New1.yN New1.yB 2 none)) (wks q4 (.initialized New1.yN.cls :: New1.site))
/-- the words ride from the start Z to the walk's own state -/
theorem moved {Z s : State} {a0 args : Array Value} (hZ : Z.Warmed39 s.vm) (hw : ∀ d ∈ words, d.before a0 Z = true) : ∀ d ∈ words, d.before args s = true := fun d hd => by
  have q := hw d hd
  have t : ∀ d ∈ words, d = .arrayClass .byte ∨ (d.onTables && d.keepsFace) = true := by decide +kernel
  rcases t d hd with rfl | t
  · exact RoadKit.mvA hZ q
  · exact RoadKit.mv hZ q t
/-- WHAT COMES BACK, over the tables of the start Z: h the heap at the call, h' behind it -/
def Q (Z : State) (x : Addr) (A : Cell) (h : Heap) (v : Option Value) (h' : Heap) (L : List Loc) : Prop := v = none ∧ (∀ y ∈ L, y.base = x) ∧ RoadKit.Keep h h' [x] ∧ h'.size = h.size + 1 ∧ RoadKit.Exa Z h' x ST ∧ RoadKit.Fld Z h' x ST "value" "[B" (.ref h.size) ∧ RoadKit.Fld Z h' x ST "coder" "B" (.int 0) ∧
  (∃ V : Cell, RoadKit.Arr Z h' h.size V .byte ∧ V.vm = .none ∧ Z.vm.findClass "[B" = some V.cls ∧ V.slots.size = A.slots.size ∧ ∀ j, j < A.slots.size → V.slots[j]? = some (.int (lo8 (cv A j)))) ∧
  ∀ (O n d : String) (w : Value), RoadKit.Fld Z h x O n d w → RoadKit.slotOf Z O n d ≠ RoadKit.slotOf Z ST "value" "[B" → RoadKit.slotOf Z O n d ≠ RoadKit.slotOf Z ST "coder" "B" → RoadKit.Fld Z h' x O n d w
/-- **new String(chars) AT A CALL, IN THE ROAD'S FORM**: for specialBack behind newO: x the fresh String, b the char[] with the cell A -/
theorem back {p : Program} {l : Launch} {e : Env} {R : Room} {s : State} {args : Array Value} {below : List Frame} {len W : Nat} {Z : State} {a0 : Array Value} {h : Heap} (hZ : Z.Warmed39 s.vm) (hw : ∀ d ∈ words, d.before a0 Z = true) {kI : Nat} (wi : (Jvm.Cond.instantiable ST kI).before a0 Z = true)
    {x b : Addr} {A : Cell} {z : Int32} {v0 c0 : Value} (E : RoadKit.Exa Z h x ST) (V : RoadKit.Fld Z h x ST "value" "[B" v0) (C : RoadKit.Fld Z h x ST "coder" "B" c0) (K : RoadKit.Arr Z h b A .char) (hty : Typed .char A) (S : RoadKit.Sta Z h ST "COMPACT_STRINGS" "Z" (.int z)) (hz : ¬ z = 0)
    (l0 : 0 < A.slots.size) (l2 : A.slots.size ≤ 536870912) (hp : ∀ i, i < A.slots.size → ¬ 255 < cv A i) (hfr : 4 ≤ R.frames) (hlo : W + 65 ≤ R.locals) :
    Back l R p e below s args New1.yN len W (fun P a => a = #[.ref x, .ref b] ∧ P.U.heap = h ∧ P.cells + 1 ≤ R.cells ∧ P.slots + A.slots.size ≤ R.slots)
      (fun P _ v B => ∃ L, Q Z x A h v B.U.heap L ∧ B.locs = P.locs ++ L ∧ B.cells = P.cells + 1 ∧ B.slots = P.slots + A.slots.size) := by
  intro m meth c P g ig mk a X hg hsize hdg hW hn hp'
  obtain ⟨rfl, rfl, r1, r2⟩ := hp'
  have al : Z.vm.Alike P.U.vm := hZ.alike.trans X.warmed.alike
  obtain ⟨D, cfV, kV, iV, fV, hD, gV, stV, knV, obV, asV, slV⟩ := id V
  obtain ⟨D', cfC, kC, iC, fC, hD', gC, stC, -, -, asC, slC⟩ := id C
  cases hD.symm.trans hD'
  obtain ⟨D2, kD, e1, e2, e3, e4, e5⟩ := id E
  cases hD.symm.trans e1
  obtain ⟨c2, k2, i1, i2, i3, -⟩ := Cond.instantiable_spec wi
  cases e2.symm.trans i1
  cases e3.symm.trans i2
  obtain ⟨kU, u1, u2⟩ := al.2.2 _ _ e3
  have hB : Blank ST x D P.U := ⟨hD, ⟨knV, fun q hq => by rw [hq] at obV; cases obV⟩, by rw [al.findClass]; exact e2, kU, u1, by rw [u2]; exact i3, by rw [u2]; exact e5 i3⟩
  have F1 : Found ST "value" "[B" fV P.U := ⟨SBG.found_only al ⟨cfV, kV, iV, gV⟩, stV⟩
  have F2 : Found ST "coder" "B" fC P.U := ⟨SBG.found_only al ⟨cfC, kC, iC, gC⟩, stC⟩
  have hA : Ch b A P.U := ⟨⟨K.1, State.isArrayOf_alike al K.2.1, K.2.2, by omega⟩, hty⟩
  have hS : StaticIs P.U ST "COMPACT_STRINGS" "Z" (.int z) := by
    obtain ⟨cfS, iS, kS, fS, st, cS, t1, t2, t3, t4, t5, t6, t7⟩ := S
    exact StaticIs.there (s := { Z with heap := P.U.heap }) ⟨cfS, iS, kS, fS, st, cS, t1, t2, t3, t4, t5, (fun q => by rw [q] at t6; cases t6), t7⟩ al rfl
  obtain ⟨v, B, X', ⟨⟨hv, E', V', q1, q2, q3, q4, q5, q6, q7, q8, q9, q10, q11⟩, hl, hc, hs⟩, st⟩ := New1.pays x D fV fC b A z (tab_of (moved hZ hw)) hfr hlo m meth c P g ig mk _ X hg hsize hdg hW hn ⟨r1, r2, rfl, hB, F1, F2, hA, hS, hz, l0, l2, hp⟩
  have al' : Z.vm.Alike B.U.vm := hZ.alike.trans X'.warmed.alike
  have hsz : E'.slots.size = D.slots.size := by
    obtain ⟨-, -, -, kB, w1, w2, w3⟩ := q1
    obtain ⟨kB', y1, y2⟩ := al'.2.2 _ _ e3
    rw [q2.2.1] at w1
    cases w1.symm.trans y1
    rw [w3, e5 i3, y2]
  refine ⟨v, B, X', ⟨_, ⟨hv, ?_, ⟨by omega, fun y cy hy hn' => q10 y cy (by simpa using hn') hy, fun y cy hy => ?_⟩, q11, ⟨E', _, q1.1, by rw [q2.2.1]; exact e2, by rw [q2.2.1]; exact e3, by rw [q2.1]; exact obV, fun _ => by rw [hsz]; exact e5 i3⟩,
    ⟨E', cfV, kV, iV, fV, q1.1, gV, stV, by rw [q2.1]; exact knV, by rw [q2.1]; exact obV, by rw [q2.2.1]; exact asV, q3⟩, ⟨E', cfC, kC, iC, fC, q1.1, gC, stC, by rw [q2.1]; exact knV, by rw [q2.1]; exact obV, by rw [q2.2.1]; exact asC, q4⟩,
    ⟨V', ⟨q5.1, State.isArrayOf_alike al'.symm q5.2.1, q5.2.2.1⟩, q6, by rw [← al'.findClass]; exact q7, q8, fun j hj => by have := q9 j hj; rwa [Nat.zero_add] at this⟩, fun O n d w F n1 n2 => ?_⟩, hl, hc, hs⟩, st⟩
  · intro y hy
    simp only [List.mem_cons, List.not_mem_nil, or_false] at hy
    rcases hy with rfl | rfl <;> rfl
  · by_cases q : y = x
    · subst q
      cases hD.symm.trans hy
      exact ⟨E', q1.1, q2.2.1, q2.1, hsz⟩
    · exact ⟨cy, q10 y cy q hy, rfl, rfl, rfl⟩
  · obtain ⟨D3, cf, k, i, f, g1, g2, g3, g4, g5, g6, g7⟩ := F
    cases hD.symm.trans g1
    simp only [RoadKit.slotOf, g2, gV, gC, Option.map_some, Option.getD_some] at n1 n2
    exact ⟨E', cf, k, i, f, q1.1, g2, g3, by rw [q2.1]; exact g4, by rw [q2.1]; exact g5, by rw [q2.2.1]; exact g6, by rw [q2.2.2 f.slot (by simp [n1, n2])]; exact g7⟩
end StrChars.Road
namespace StrChars.Road
open Jvm Sem ClassFile Op Lib Jvm.Stand Jvm.Free Jvm.Free.XT
/-- WHAT COMES BACK, the byte[] as a list of values -/
def QA (Z : State) (x : Addr) (zn : Int32) (cs : List Int32) (h : Heap) (v : Option Value) (h' : Heap) (L : List Loc) : Prop := v = none ∧ (∀ y ∈ L, y.base = x) ∧ RoadKit.Keep h h' [x] ∧ h'.size = h.size + 1 ∧ RoadKit.Exa Z h' x ST ∧ RoadKit.Fld Z h' x ST "value" "[B" (.ref h.size) ∧ RoadKit.Fld Z h' x ST "coder" "B" (.int 0) ∧
  (∃ kb, Z.vm.findClass "[B" = some kb ∧ RoadKit.Arv Z h' h.size kb .byte zn (cs.map fun c => .int (lo8 c)) (.int 0)) ∧
  ∀ (O n d : String) (w : Value), RoadKit.Fld Z h x O n d w → RoadKit.slotOf Z O n d ≠ RoadKit.slotOf Z ST "value" "[B" → RoadKit.slotOf Z O n d ≠ RoadKit.slotOf Z ST "coder" "B" → RoadKit.Fld Z h' x O n d w
/-- **new String(chars) AT A CALL, THE ARRAYS AS LISTS**: the char[] at b holds cs, not empty, no char above 255 -/
theorem backArv {p : Program} {l : Launch} {e : Env} {R : Room} {s : State} {args : Array Value} {below : List Frame} {len W : Nat} {Z : State} {a0 : Array Value} {h : Heap} (hZ : Z.Warmed39 s.vm) (hw : ∀ d ∈ words, d.before a0 Z = true) {kI : Nat} (wi : (Jvm.Cond.instantiable ST kI).before a0 Z = true)
    {x b : Addr} {k : ClassId} {zn z : Int32} {cs : List Int32} {dv v0 c0 : Value} (E : RoadKit.Exa Z h x ST) (V : RoadKit.Fld Z h x ST "value" "[B" v0) (C : RoadKit.Fld Z h x ST "coder" "B" c0) (K : RoadKit.Arv Z h b k .char zn (cs.map Value.int) dv) (S : RoadKit.Sta Z h ST "COMPACT_STRINGS" "Z" (.int z)) (hz : ¬ z = 0)
    (hlen : zn.toNatClampNeg = cs.length) (h0 : 0 < cs.length) (hbig : cs.length ≤ 536870912) (hall : ∀ c ∈ cs, ¬ 255 < c) (hfr : 4 ≤ R.frames) (hlo : W + 65 ≤ R.locals) :
    Back l R p e below s args New1.yN len W (fun P a => a = #[.ref x, .ref b] ∧ P.U.heap = h ∧ P.cells + 1 ≤ R.cells ∧ P.slots + cs.length ≤ R.slots)
      (fun P _ v B => ∃ L, QA Z x zn cs h v B.U.heap L ∧ B.locs = P.locs ++ L ∧ B.cells = P.cells + 1 ∧ B.slots = P.slots + cs.length) := by
  obtain ⟨A, K1, K2, K3, K4, K5, K6⟩ := K
  have e : A.slots.size = cs.length := K3.trans hlen
  have hat : ∀ (i : Nat) (hi : i < cs.length), A.slots[i]? = some (.int cs[i]) := fun i hi => by rw [K5 i (by omega)]; simp [List.getD_eq_getElem?_getD, hi]
  have hcv : ∀ (i : Nat) (hi : i < cs.length), cv A i = cs[i] := fun i hi => by unfold cv; rw [hat i hi]
  have hty : Typed .char A := fun i v hv => by
    have hi : i < A.slots.size := (Array.getElem?_eq_some_iff.mp hv).1
    have q := K5 i hi
    rw [hv] at q
    rw [Option.some.inj q]
    exact K6 i hi
  refine Back.mono (back hZ hw wi E V C K1 hty S hz (by omega) (by omega) (fun i hi => by rw [hcv i (by omega)]; exact hall _ (List.getElem_mem _)) hfr hlo) (fun P a hp => ⟨hp.1, hp.2.1, hp.2.2.1, by rw [e]; exact hp.2.2.2⟩) (fun P a v B hp hq => ?_)
  obtain ⟨L, ⟨q1, q2, q3, q4, q5, q6, q7, ⟨V', v1, v2, v3, v4, v5⟩, q9⟩, hl, hc, hs⟩ := hq
  refine ⟨L, ⟨q1, q2, q3, q4, q5, q6, q7, ⟨V'.cls, v3, V', v1, rfl, by rw [v4, e, hlen], K4, fun i hi => ?_, fun i hi => ?_⟩, q9⟩, hl, hc, by rw [hs, e]⟩
  · have hi' : i < cs.length := by omega
    rw [v5 i (by omega), hcv i hi']; simp [List.getD_eq_getElem?_getD, hi']
  · have hi' : i < cs.length := by omega
    simp only [List.getD_eq_getElem?_getD, List.getElem?_map, List.getElem?_eq_getElem hi', Option.map_some, Option.getD_some]
    exact fits_lo8 _
end StrChars.Road
namespace StrChars.Road
open Jvm Sem ClassFile Op Lib Jvm.Stand Jvm.Free Jvm.Free.XT
/-- WHAT COMES BACK, in the writer's own shape -/
def QV (Z : State) (x : Addr) (N : Int32) (bs : List Int32) (h : Heap) (n0 : Nat) (v : Option Value) (h' : Heap) (L : List Loc) : Prop := v = none ∧ RoadKit.Fr n0 L ∧ RoadKit.Keep h h' [x] ∧ RoadKit.Exa Z h' x ST ∧ RoadKit.Fld Z h' x ST "coder" "B" (.int 0) ∧
  ∃ (t : Addr) (kb : ClassId), n0 ≤ t ∧ h.size ≤ t ∧ ¬ t = x ∧ RoadKit.Fld Z h' x ST "value" "[B" (.ref t) ∧ RoadKit.Arv Z h' t kb .byte N (bs.map Value.int) (.int 0)
/-- **new String(chars) AT A CALL, FOR THE WRITER**: a char[] of n known ints, each 0 to 255 -/
theorem backV {p : Program} {l : Launch} {e : Env} {R : Room} {s : State} {args : Array Value} {below : List Frame} {len W : Nat} {Z : State} {a0 : Array Value} {h : Heap} (hZ : Z.Warmed39 s.vm) (hw : ∀ d ∈ words, d.before a0 Z = true) {kI : Nat} (wi : (Jvm.Cond.instantiable ST kI).before a0 Z = true)
    {x b : Addr} {kC : ClassId} {cs bs : List Int32} {d v0 c0 : Value} {z N : Int32} {n n0 : Nat} (hx0 : n0 ≤ x) (hh0 : n0 ≤ h.size) (E : RoadKit.Exa Z h x ST) (V : RoadKit.Fld Z h x ST "value" "[B" v0) (C : RoadKit.Fld Z h x ST "coder" "B" c0) (K : RoadKit.Arv Z h b kC .char N (cs.map Value.int) d) (S : RoadKit.Sta Z h ST "COMPACT_STRINGS" "Z" (.int z)) (hz : ¬ z = 0)
    (hn : cs.length = n) (hN : N = Int32.ofNat n) (l0 : 0 < n) (l2 : n ≤ 4000) (hp : ∀ c ∈ cs, ¬ c < 0 ∧ ¬ (255 : Int32) < c) (hb : bs = cs.map (fun c => c.toInt8.toInt32)) (hfr : 4 ≤ R.frames) (hlo : W + 65 ≤ R.locals) :
    Back l R p e below s args (⟨"java/lang/String", "<init>", "([C)V"⟩ : MethodName) len W (fun P a => a = #[.ref x, .ref b] ∧ P.U.heap = h ∧ P.cells + 1 ≤ R.cells ∧ P.slots + n ≤ R.slots)
      (fun P _ v B => ∃ L, QV Z x N bs h n0 v B.U.heap L ∧ B.locs = P.locs ++ L ∧ B.cells = P.cells + 1 ∧ B.slots = P.slots + n) := by
  subst hn hN hb
  refine Back.mono (backArv hZ hw wi E V C K S hz (n32 (by omega)) l0 (by omega) (fun c hc => (hp c hc).2) hfr hlo) (fun P a hp => hp) (fun P a v B hp hq => ?_)
  obtain ⟨L, ⟨q1, q2, q3, q4, q5, q6, q7, ⟨kb, v1, v2⟩, q9⟩, hl, hc, hs⟩ := hq
  exact ⟨L, ⟨q1, fun y hy => by rw [q2 y hy]; exact hx0, q3, q5, q7, h.size, kb, hh0, Nat.le_refl _, Nat.ne_of_gt E.lt, q6, by rw [List.map_map]; exact v2⟩, hl, hc, hs⟩
end StrChars.Road
end Jvm.Pilot.@@N@@
namespace Jvm.RoadKit
open Sem ClassFile Op Lib Jvm.Stand Jvm.Free Jvm.LawKit
section Own
variable {p : Program} {l : Launch} {e : Env} {R : Room} {s : State} {m : MethodId} {args : Array Value} {below : List Frame} {meth : Method} {c : Code} {T : State} {locs : List Loc} {cells slots : Nat} {Z : State} {a0 : Array Value} {h h' h0 : Heap} {ws ws' : List Addr} {Q : Option Value → Heap → List Loc → Prop} {k n : Nat}
/-- the run from U comes to an end of which G speaks -/
def OEnd (p : Program) (e : Env) (below : List Frame) (G : Outcome → State → Prop) (U : State) : Prop := ∃ t o, Steps p.tables e below U t ∧ t.status = .running ∧ Ended t below o ∧ G o t
theorem OEnd.of {G : Outcome → State → Prop} {U U' : State} (q : ∀ t, Steps p.tables e below U' t → Steps p.tables e below U t) (k : OEnd p e below G U') : OEnd p e below G U := by
  obtain ⟨t, o, h1, h2⟩ := k
  exact ⟨t, o, q t h1, h2⟩
/-- a contract's end, nothing interned -/
def GN (s : State) (Q : Option Value → Heap → List Loc → Prop) (k n : Nat) (o : Outcome) (t : State) : Prop := ∃ v L, o = .returned v ∧ Q v t.heap L ∧ FrameEnd s o t L k n
theorem OEnd.out {v : Option Value} {g : JFrame} (X : Stand p l e R s m args below meth c T locs cells slots) (hlk : meth.locks = false) (eT : T.heap = h) (hv : meth.sig.returnType = none → v = none)
    (hs : ∀ fs, (∀ (f : JFrame) (acts : List Action), f.method = m → f.locked = none → f.entered = [] → (doReturn e (T.setTop f) acts v).1 = T.setFrames fs) → Steps p.tables e below (T.setTop g) (T.setFrames fs))
    (hQ : Q v h locs) (hk : cells ≤ k) (hn : slots ≤ n) : OEnd p e below (GN s Q k n) (T.setTop g) := by
  obtain ⟨fs, hr, hrun, hended, hW, hsame⟩ := X.leave (v := v) hv hlk
  exact ⟨_, _, hs fs hr, hrun, hended, v, locs, rfl, (by show Q v T.heap locs; rw [eT]; exact hQ), ⟨v, rfl⟩, hW, hsame.mono hk hn⟩
theorem OEnd.retV {pc : Nat} {Ls : Array Slot} (X : Stand p l e R s m args below meth c T locs cells slots) (hx : p.tables.exec = Jvm.exec) (hlk : meth.locks = false) (eT : T.heap = h) (hret : meth.sig.returnType = none) (hd : decode c.code pc = .ok (.return_, 1))
    (hQ : Q none h locs) (hk : cells ≤ k) (hn : slots ≤ n) : OEnd p e below (GN s Q k n) (T.setTop (mkF m pc Ls [])) :=
  OEnd.out X hlk eT (fun _ => rfl) (fun fs hr => X.returnOut hx hret hd hr) hQ hk hn
theorem OEnd.retN {pc : Nat} {Ls : Array Slot} {z : Int32} {t : FieldType} {rest : List Value} (X : Stand p l e R s m args below meth c T locs cells slots) (hx : p.tables.exec = Jvm.exec) (hlk : meth.locks = false) (eT : T.heap = h) (hret : meth.sig.returnType = some t) (ht : t = .boolean ∨ t = .byte ∨ t = .char ∨ t = .short)
    (hd : decode c.code pc = .ok (.ireturn, 1)) (hQ : Q (some (.int (nar t z))) h locs) (hk : cells ≤ k) (hn : slots ≤ n) : OEnd p e below (GN s Q k n) (T.setTop (mkF m pc Ls (.int z :: rest))) :=
  OEnd.out X hlk eT (fun q => by rw [hret] at q; cases q) (fun fs hr => Jvm.RoadKit.retN X hx hret ht hd hr) hQ hk hn
theorem OEnd.retI {pc : Nat} {Ls : Array Slot} {z : Int32} {rest : List Value} (X : Stand p l e R s m args below meth c T locs cells slots) (hx : p.tables.exec = Jvm.exec) (hlk : meth.locks = false) (eT : T.heap = h) (hret : meth.sig.returnType = some .int)
    (hd : decode c.code pc = .ok (.ireturn, 1)) (hQ : Q (some (.int z)) h locs) (hk : cells ≤ k) (hn : slots ≤ n) : OEnd p e below (GN s Q k n) (T.setTop (mkF m pc Ls (.int z :: rest))) :=
  OEnd.out X hlk eT (fun q => by rw [hret] at q; cases q) (fun fs hr => retOut X hx hret rfl (Or.inl ⟨rfl, Or.inl rfl, z, rfl⟩) hd hr) hQ hk hn
theorem OEnd.retJ {pc : Nat} {Ls : Array Slot} {z : Int64} {rest : List Value} (X : Stand p l e R s m args below meth c T locs cells slots) (hx : p.tables.exec = Jvm.exec) (hlk : meth.locks = false) (eT : T.heap = h) (hret : meth.sig.returnType = some .long)
    (hd : decode c.code pc = .ok (.lreturn, 1)) (hQ : Q (some (.long z)) h locs) (hk : cells ≤ k) (hn : slots ≤ n) : OEnd p e below (GN s Q k n) (T.setTop (mkF m pc Ls (.long z :: rest))) :=
  OEnd.out X hlk eT (fun q => by rw [hret] at q; cases q) (fun fs hr => retOut X hx hret rfl (Or.inr (Or.inl ⟨rfl, rfl, z, rfl⟩)) hd hr) hQ hk hn
theorem own_narRef {t : FieldType} {w : Value} (hw : w.isRef = true) : narrow t w = w := by cases w <;> first | (cases hw; done) | (cases t <;> rfl)
theorem OEnd.retA {pc : Nat} {Ls : Array Slot} {w : Value} {t : FieldType} {rest : List Value} (X : Stand p l e R s m args below meth c T locs cells slots) (hx : p.tables.exec = Jvm.exec) (hlk : meth.locks = false) (eT : T.heap = h) (hret : meth.sig.returnType = some t) (ht : t.isReference = true) (hw : w.isRef = true)
    (hd : decode c.code pc = .ok (.areturn, 1)) (hQ : Q (some w) h locs) (hk : cells ≤ k) (hn : slots ≤ n) : OEnd p e below (GN s Q k n) (T.setTop (mkF m pc Ls (w :: rest))) :=
  OEnd.out X hlk eT (fun q => by rw [hret] at q; cases q) (fun fs hr => retOut X hx hret (own_narRef hw) (Or.inr (Or.inr (Or.inr (Or.inr ⟨rfl, ht, hw⟩)))) hd hr) hQ hk hn
theorem own_stV {P : Value → Prop} {v : Value} (h : v.isRef = true) (h0 : P .null) (h1 : ∀ a, P (.ref a)) : P v := by
  rcases ref_cases h with rfl | ⟨a, rfl⟩
  · exact h0
  · exact h1 a
theorem own_cat {v : Value} (h : v.isRef = true) : v.category = 1 := own_stV (P := fun z => z.category = 1) h rfl (fun _ => rfl)
theorem own_extKeep (O : Ext h0 h) (K : Keep h h' ws) (q : ∀ x ∈ ws, h0.size ≤ x) : Ext h0 h' := ⟨Nat.le_trans O.1 K.1, fun x c r => K.2.1 x c (O.2 x c r) fun z => absurd (Array.getElem?_eq_some_iff.mp r).1 (Nat.not_lt.mpr (q x z))⟩
theorem own_keepMono (K : Keep h h' ws) (q : ∀ x ∈ ws, x ∈ ws') : Keep h h' ws' := ⟨K.1, fun x c r n => K.2.1 x c r (fun z => n (q x z)), K.2.2⟩
theorem own_fitsRef {ty : FieldType} {v : Value} (hv : v.isRef = true) (ht : ty.isReference = true) : fits ty v = true := by cases v <;> first | (cases hv; done) | (cases ty <;> first | (cases ht; done) | rfl)
/-- a private method selects itself (its class can be made, so it is no interface) -/
theorem own_selPriv {y : MethodName} {nn : Nat} (hZ : Z.Warmed39 s.vm) (wi : (Cond.instantiable y.cls nn).before a0 Z = true) (wp : (Cond.privateMethod y).before a0 Z = true) (wm : (Cond.instanceMethod y).before a0 Z = true) (hy : y.cls ≠ "java/lang/invoke/MethodHandle" ∧ y.cls ≠ "java/lang/invoke/VarHandle") : (Cond.selects y.cls y y).before args s = true := by
  have wi' : (Cond.instantiable y.cls nn).before #[] s = true := mv hZ wi
  obtain ⟨cc, kk, h1, h2, -, h3, -⟩ := Cond.instantiable_spec wi'
  exact selects_self_of_private h1 h2 (by simpa using (Bool.or_eq_false_iff.mp h3).1) (Cond.privateMethod_at (mvP hZ wp (args := #[]))) (mvT hZ wm) hy
/-- an object of a class right beneath the root is none of a class K that can be made -/
theorem own_notAssign {C O K : String} {nn : Nat} (w : (Cond.superclass C O).before a0 Z = true) (wo : (Cond.noSuperclass O).before a0 Z = true) (wi : (Cond.instantiable K nn).before a0 Z = true) (h1 : C ≠ K) (h2 : O ≠ K) : ∃ c t, Z.vm.findClass C = some c ∧ Z.vm.findClass K = some t ∧ Z.vm.assignable c t = false := by
  obtain ⟨cc, hc⟩ := found_sup w
  obtain ⟨pp, kk, kp, hp, hk, hkp, hsup, hkind, -, -⟩ := Cond.superclass_spec hc w
  obtain ⟨oo, ko, ho, hko, hnone, -, -⟩ := Cond.noSuperclass_spec wo
  obtain ⟨tt, kt, ht, hkt, hkindt, hif, -⟩ := Cond.instantiable_spec wi
  cases ho.symm.trans hp
  have ne1 := ids_ne hc ht h1
  have ne2 := ids_ne ho ht h2
  have hi : kt.isInterface = false := (Bool.or_eq_false_iff.mp hif).1
  have sb : ∀ f, Z.vm.isSubclassAux f cc tt = false := fun f => by
    match f with
    | 0 => rfl
    | 1 => simp [Vm.isSubclassAux, ne1, hk, hsup]
    | f + 2 => simp [Vm.isSubclassAux, ne1, ne2, hk, hsup, hko, hnone]
  refine ⟨cc, tt, hc, ht, ?_⟩
  show Z.vm.assignableAux (255 + 1) cc tt = false
  simp [Vm.assignableAux, ne1, hk, hkt, hkind, hkindt, hi, Vm.isSubclass, sb]
end Own
end Jvm.RoadKit
namespace Jvm.RoadKit
open Sem ClassFile Op Lib Bundle Jvm.Stand Jvm.Free Jvm.LawKit Jvm.Free.SB Jvm.Free.SBG
section OwnW
variable {p : Program} {l : Launch} {e : Env} {R : Room} {s : State} {m : MethodId} {args : Array Value} {below : List Frame} {meth : Method} {c : Code} {T : State} {locs : List Loc} {cells slots : Nat} {Z : State} {a0 : Array Value} {h h' h0 : Heap} {ws ws' : List Addr} {Q : Option Value → Heap → List Loc → Prop} {k n k0 : Nat} {vm0 vm : Vm} {EL : List (String × Nat)}
/-- a contract's end, constants may have been loaded -/
def GW (s Z : State) (EL : List (String × Nat)) (Q : Option Value → Heap → List Loc → Prop) (k n : Nat) (o : Outcome) (t : State) : Prop := ∃ v L, o = .returned v ∧ Q v t.heap L ∧ CHr Z EL s.vm s.heap t.vm t.heap ∧ ReturnedEndW s o t L k n
theorem OEnd.outW {v : Option Value} {g : JFrame} (X : Stand p l e R (s.setVm vm0) m args below meth c T locs cells slots) (hlk : meth.locks = false) (eT : T.heap = h) (hh : s.heap = h0) (hS : s.Since vm0 k0) (hk0 : k0 ≤ h.size) (hEL : EW Z a0 EL) (hZ : Z.Warmed39 vm0) (HR : CHr Z EL s.vm h0 vm0 h) (hv : meth.sig.returnType = none → v = none)
    (hs : ∀ fs, (∀ (f : JFrame) (acts : List Action), f.method = m → f.locked = none → f.entered = [] → (doReturn e (T.setTop f) acts v).1 = T.setFrames fs) → Steps p.tables e below (T.setTop g) (T.setFrames fs))
    (hQ : Q v h locs) (hk : cells ≤ k) (hn : slots ≤ n) : OEnd p e below (GW s Z EL Q k n) (T.setTop g) := by
  obtain ⟨fs, hr, hrun, hended, hv', hW, hB, hsame⟩ := X.leaveW hS (by rw [eT]; exact hk0) (v := v) hv hlk
  refine ⟨_, _, hs fs hr, hrun, hended, v, locs, rfl, (by show Q v T.heap locs; rw [eT]; exact hQ), ?_, hv', hW, hB, hsame.mono hk hn⟩
  show CHr Z EL s.vm s.heap T.vm T.heap
  rw [eT, hh]
  exact HR.trans (CHv.at X hZ hEL HR.1)
theorem OEnd.retVW {pc : Nat} {Ls : Array Slot} (X : Stand p l e R (s.setVm vm0) m args below meth c T locs cells slots) (hx : p.tables.exec = Jvm.exec) (hlk : meth.locks = false) (eT : T.heap = h) (hh : s.heap = h0) (hS : s.Since vm0 k0) (hk0 : k0 ≤ h.size) (hEL : EW Z a0 EL) (hZ : Z.Warmed39 vm0) (HR : CHr Z EL s.vm h0 vm0 h) (hret : meth.sig.returnType = none) (hd : decode c.code pc = .ok (.return_, 1))
    (hQ : Q none h locs) (hk : cells ≤ k) (hn : slots ≤ n) : OEnd p e below (GW s Z EL Q k n) (T.setTop (mkF m pc Ls [])) :=
  OEnd.outW X hlk eT hh hS hk0 hEL hZ HR (fun _ => rfl) (fun fs hr => X.returnOut hx hret hd hr) hQ hk hn
theorem OEnd.retNW {pc : Nat} {Ls : Array Slot} {z : Int32} {t : FieldType} {rest : List Value} (X : Stand p l e R (s.setVm vm0) m args below meth c T locs cells slots) (hx : p.tables.exec = Jvm.exec) (hlk : meth.locks = false) (eT : T.heap = h) (hh : s.heap = h0) (hS : s.Since vm0 k0) (hk0 : k0 ≤ h.size) (hEL : EW Z a0 EL) (hZ : Z.Warmed39 vm0) (HR : CHr Z EL s.vm h0 vm0 h) (hret : meth.sig.returnType = some t) (ht : t = .boolean ∨ t = .byte ∨ t = .char ∨ t = .short)
    (hd : decode c.code pc = .ok (.ireturn, 1)) (hQ : Q (some (.int (nar t z))) h locs) (hk : cells ≤ k) (hn : slots ≤ n) : OEnd p e below (GW s Z EL Q k n) (T.setTop (mkF m pc Ls (.int z :: rest))) :=
  OEnd.outW X hlk eT hh hS hk0 hEL hZ HR (fun q => by rw [hret] at q; cases q) (fun fs hr => Jvm.RoadKit.retN X hx hret ht hd hr) hQ hk hn
theorem OEnd.retIW {pc : Nat} {Ls : Array Slot} {z : Int32} {rest : List Value} (X : Stand p l e R (s.setVm vm0) m args below meth c T locs cells slots) (hx : p.tables.exec = Jvm.exec) (hlk : meth.locks = false) (eT : T.heap = h) (hh : s.heap = h0) (hS : s.Since vm0 k0) (hk0 : k0 ≤ h.size) (hEL : EW Z a0 EL) (hZ : Z.Warmed39 vm0) (HR : CHr Z EL s.vm h0 vm0 h) (hret : meth.sig.returnType = some .int)
    (hd : decode c.code pc = .ok (.ireturn, 1)) (hQ : Q (some (.int z)) h locs) (hk : cells ≤ k) (hn : slots ≤ n) : OEnd p e below (GW s Z EL Q k n) (T.setTop (mkF m pc Ls (.int z :: rest))) :=
  OEnd.outW X hlk eT hh hS hk0 hEL hZ HR (fun q => by rw [hret] at q; cases q) (fun fs hr => retOut X hx hret rfl (Or.inl ⟨rfl, Or.inl rfl, z, rfl⟩) hd hr) hQ hk hn
theorem OEnd.retAW {pc : Nat} {Ls : Array Slot} {w : Value} {t : FieldType} {rest : List Value} (X : Stand p l e R (s.setVm vm0) m args below meth c T locs cells slots) (hx : p.tables.exec = Jvm.exec) (hlk : meth.locks = false) (eT : T.heap = h) (hh : s.heap = h0) (hS : s.Since vm0 k0) (hk0 : k0 ≤ h.size) (hEL : EW Z a0 EL) (hZ : Z.Warmed39 vm0) (HR : CHr Z EL s.vm h0 vm0 h) (hret : meth.sig.returnType = some t) (ht : t.isReference = true) (hw : w.isRef = true)
    (hd : decode c.code pc = .ok (.areturn, 1)) (hQ : Q (some w) h locs) (hk : cells ≤ k) (hn : slots ≤ n) : OEnd p e below (GW s Z EL Q k n) (T.setTop (mkF m pc Ls (w :: rest))) :=
  OEnd.outW X hlk eT hh hS hk0 hEL hZ HR (fun q => by rw [hret] at q; cases q) (fun fs hr => retOut X hx hret (own_narRef hw) (Or.inr (Or.inr (Or.inr (Or.inr ⟨rfl, ht, hw⟩)))) hd hr) hQ hk hn
/-- a String whose bytes aren't laid yet is no booked constant -/
theorem own_safeNull {x : Addr} (hal : Z.vm.Alike vm) (E : Exa Z h x "java/lang/String") (F : Fld Z h x "java/lang/String" "value" "[B" .null) : Safe Z EL vm h x := fun B => by
  obtain ⟨p, -, u, a, -, q, -, ⟨cS, ⟨⟨s1, s2, s3, ⟨cv, kv, iv, s4, s4'⟩, -, s6, -, s8, -, s10, ⟨hst, kB, hkB, comp, hkindB⟩, -⟩, -, -⟩, ⟨kS, g1, g2, -⟩, hB, -⟩, rfl | rfl⟩ := B
  · obtain ⟨cell, cf, k, i, f, f1, f2, -, -, -, -, f7⟩ := F
    cases (show h[q.sa]? = some q.sC from s1).symm.trans f1
    obtain ⟨kv', z4⟩ := ff_back (Z := Z) (U := Wst Z vm h) hal s4
    have z4' : Z.fieldFound? "java/lang/String" "value" "[B" = some (cv, kv', iv, q.fSV) := z4
    rw [f2] at z4'
    cases z4'
    rw [show q.sC.slots[q.fSV.slot]? = some (.ref q.sd) from s8] at f7
    cases f7
  · obtain ⟨cell, k, e1, e2, e3, -⟩ := E
    cases (show h[q.sd]? = some q.SA from s10).symm.trans e1
    have hB' : Z.vm.findClass "[B" = some q.SA.cls := by rw [← hal.findClass]; exact hB
    exact ids_ne (Z := Z) e2 hB' (by decide) rfl
theorem own_safeArv {x : Addr} {kk : ClassId} {ty : FieldType} {z : Int32} {vs : List Value} {d : Value} (hal : Z.vm.Alike vm) (A : Arv Z h x kk ty z vs d) (ht : ty ≠ .byte) : Safe Z EL vm h x := by
  obtain ⟨cl, A1, -⟩ := A
  exact Safe.arr hal A1 ht
end OwnW
end Jvm.RoadKit
namespace Jvm.RoadKit
open Sem ClassFile Op Lib Jvm.Stand Jvm.Free Jvm.LawKit
/-- a String of these chars, each 0 to 255 -/
def IsStr (Z : State) (h : Heap) (a : Addr) (cs : List Int32) : Prop := Exa Z h a "java/lang/String" ∧ Fld Z h a "java/lang/String" "coder" "B" (.int 0) ∧
  (∃ (t : Addr) (kb : ClassId), Fld Z h a "java/lang/String" "value" "[B" (.ref t) ∧ Arv Z h t kb .byte (Int32.ofNat cs.length) ((cs.map fun c => c.toInt8.toInt32).map Value.int) (.int 0)) ∧ (∀ c ∈ cs, ¬ c < 0 ∧ ¬ (255 : Int32) < c) ∧ cs.length ≤ 4000
theorem IsStr.keep {Z : State} {h h' : Heap} {a : Addr} {cs : List Int32} (S : IsStr Z h a cs) (K : Keep h h' []) : IsStr Z h' a cs := by
  obtain ⟨E, C, ⟨t, kb, V, A⟩, r⟩ := S
  exact ⟨E.keep K, C.keep K nin0, ⟨t, kb, V.keep K nin0, A.keep K nin0⟩, r⟩
/-- a cell that is no String and no array -/
def Apart (Z : State) (h : Heap) (x : Addr) : Prop := (∀ a, Exa Z h a "java/lang/String" → x ≠ a) ∧ ∀ (b : Addr) (k : ClassId) (ty : FieldType) (z : Int32) (vs : List Value) (d : Value), Arv Z h b k ty z vs d → x ≠ b
theorem own_apart {Z : State} {a0 : Array Value} {h : Heap} {x : Addr} {C : String} {n : Nat} (E : Exa Z h x C) (w : (Cond.instantiable C n).before a0 Z = true) (hn : C ≠ "java/lang/String") : Apart Z h x := ⟨fun _ F => Exa.ne E F hn, fun _ _ _ _ _ _ F => Exa.neArv E F w⟩
theorem IsStr.keepA {Z : State} {h h' : Heap} {a : Addr} {cs : List Int32} {ws : List Addr} (S : IsStr Z h a cs) (K : Keep h h' ws) (q : ∀ x ∈ ws, Apart Z h x) : IsStr Z h' a cs := by
  obtain ⟨E, C, ⟨t, kb, V, A⟩, r⟩ := S
  have n1 : a ∉ ws := fun z => (q a z).1 a E rfl
  have n2 : t ∉ ws := fun z => (q t z).2 t _ _ _ _ _ A rfl
  exact ⟨E.keep K, C.keep K n1, ⟨t, kb, V.keep K n1, A.keep K n2⟩, r⟩
theorem IsStr.lt {Z : State} {h : Heap} {a : Addr} {cs : List Int32} (S : IsStr Z h a cs) : a < h.size := S.1.lt
theorem own_ch {x y : Int32} (q : (x &&& 255).toUInt32.toUInt16.toUInt32.toInt32 = y) : ¬ y < 0 ∧ ¬ (255 : Int32) < y := by
  rw [i2c_mask] at q
  subst q
  have e : (x &&& 255).toInt = x.toInt % 256 := Jvm.Kit.i32_mask x 255 (k := 8) (by decide) (by decide)
  have z : (0 : Int32).toInt = 0 := rfl
  have m : (255 : Int32).toInt = 255 := rfl
  exact ⟨fun q => by have := Int32.lt_iff_toInt_lt.mp q; omega, fun q => by have := Int32.lt_iff_toInt_lt.mp q; omega⟩
theorem own_narC {y : Int32} (h : ¬ y < 0 ∧ ¬ (255 : Int32) < y) : nar .char y = y := by
  have z : (0 : Int32).toInt = 0 := rfl
  have m : (255 : Int32).toInt = 255 := rfl
  have h1 : 0 ≤ y.toInt := by have := mt Int32.lt_iff_toInt_lt.mpr h.1; omega
  have h2 : y.toInt ≤ 255 := by have := mt Int32.lt_iff_toInt_lt.mpr h.2; omega
  have e : y &&& 255 = y := Int32.toInt_inj.mp (by
    rw [Jvm.Kit.i32_mask y 255 (k := 8) (by decide) (by decide)]
    omega)
  have q := i2c_mask y
  rw [e] at q
  exact q
theorem own_nar8 (x : Int32) : nar .byte x.toInt8.toInt32 = x.toInt8.toInt32 := by
  show x.toInt8.toInt32.toInt8.toInt32 = _
  simp
theorem own_up {cs : List Int32} (h : ∀ c ∈ cs, ¬ c < 0 ∧ ¬ (255 : Int32) < c) : ∀ c ∈ cs, ¬ c < 0 ∧ ¬ (65535 : Int32) < c := fun c hc => ⟨(h c hc).1, fun q => (h c hc).2 (Int32.lt_trans (by decide) q)⟩
theorem own_eqv {v : Option Value} {P : Prop} (h : (v = some (.int 1) ∧ P) ∨ (v = some (.int 0) ∧ ¬ P)) : ∃ bb : Int32, v = some (.int bb) ∧ ((bb = 1 ∧ P) ∨ (bb = 0 ∧ ¬ P)) := by
  rcases h with ⟨h, p⟩ | ⟨h, p⟩
  · exact ⟨1, h, Or.inl ⟨rfl, p⟩⟩
  · exact ⟨0, h, Or.inr ⟨rfl, p⟩⟩
theorem own_same {b e : Int32} {P : Prop} (h1 : (b = 1 ∧ P) ∨ (b = 0 ∧ ¬ P)) (h2 : (e = 1 ∧ P) ∨ (e = 0 ∧ ¬ P)) : b = e := by
  rcases h1 with ⟨rfl, p⟩ | ⟨rfl, p⟩
  · rcases h2 with ⟨rfl, q⟩ | ⟨rfl, q⟩
    · rfl
    · exact absurd p q
  · rcases h2 with ⟨rfl, q⟩ | ⟨rfl, q⟩
    · exact absurd q p
    · rfl
end Jvm.RoadKit
namespace Jvm.RoadKit
open Sem ClassFile Op Lib Jvm.Stand Jvm.Free Jvm.LawKit
/-- a Latin-1 String's bytes -/
abbrev BB (cs : List Int32) : List Value := (cs.map fun c => c.toInt8.toInt32).map Value.int
theorem own_toI {k c : Nat} (h : k ≤ c) (hc : c ≤ 4000 := by decide) : (Int32.ofNat k).toInt = (k : Int) := Int32.toInt_ofNat_small (by omega)
theorem own_ofN {k c : Nat} (h : k ≤ c) (hc : c ≤ 4000 := by decide) : (Int32.ofNat k).toNatClampNeg = k := by
  show (Int32.ofNat k).toInt.toNat = k
  rw [own_toI h hc]; rfl
theorem own_nn {k c : Nat} (h : k ≤ c) (hc : c ≤ 4000 := by decide) : ¬ Int32.ofNat k < 0 := fun q => by
  have := Int32.lt_iff_toInt_lt.mp q
  have z : (0 : Int32).toInt = 0 := rfl
  rw [own_toI h hc, z] at this
  omega
theorem own_capN {k c : Nat} (h : k ≤ c) (hc : c ≤ 4000 := by decide) : (Int32.ofNat k).toNatClampNeg ≤ c := by rw [own_ofN h hc]; exact h
theorem own_ltN {a b : Nat} (ha : a ≤ 4000) (hb : b ≤ 4000) : Int32.ofNat a < Int32.ofNat b ↔ a < b := by
  rw [Int32.lt_iff_toInt_lt, own_toI ha (Nat.le_refl _), own_toI hb (Nat.le_refl _)]; omega
theorem own_eqN {a b : Nat} (ha : a ≤ 4000) (hb : b ≤ 4000) : Int32.ofNat a = Int32.ofNat b ↔ a = b := by
  rw [← Int32.toInt_inj, own_toI ha (Nat.le_refl _), own_toI hb (Nat.le_refl _)]; omega
theorem own_inc (k : Nat) : Int32.ofNat k + 1 = Int32.ofNat (k + 1) := Int32.ofNat_succ k
theorem own_add (a b : Nat) : Int32.ofNat a + Int32.ofNat b = Int32.ofNat (a + b) := (Int32.ofNat_add a b).symm
theorem own_sub {a b : Nat} (h : b ≤ a) : Int32.ofNat a - Int32.ofNat b = Int32.ofNat (a - b) := by
  have e : Int32.ofNat a = Int32.ofNat (a - b) + Int32.ofNat b := by rw [own_add, Nat.sub_add_cancel h]
  rw [e, Int32.add_sub_cancel]
theorem own_dec {k : Nat} (h : 0 < k) : Int32.ofNat k - 1 = Int32.ofNat (k - 1) := own_sub (b := 1) h
theorem own_shr0 (x : Int32) : x >>> ((0 : Int32) &&& 31) = x := by
  rw [show ((0 : Int32) &&& 31) = 0 from rfl, Int32.shiftRight_zero]
theorem own_inB {cl : Cell} {cs : List Int32} {k : Nat} (S : cl.slots.size = (Int32.ofNat cs.length).toNatClampNeg) (hk : k < cs.length) (hl : cs.length ≤ 4000) : ¬ (Int32.ofNat k < 0 ∨ cl.slots.size ≤ (Int32.ofNat k).toNatClampNeg) := fun q => by
  rcases q with q | q
  · exact own_nn (Nat.le_of_lt (Nat.lt_of_lt_of_le hk hl)) (Nat.le_refl _) q
  · rw [S, own_ofN hl (Nat.le_refl _), own_ofN (Nat.le_of_lt (Nat.lt_of_lt_of_le hk hl)) (Nat.le_refl _)] at q
    omega
theorem own_inC {cl : Cell} {k n : Nat} (S : cl.slots.size = (Int32.ofNat n).toNatClampNeg) (hk : k < n ∧ n ≤ 4000) : ¬ (Int32.ofNat k < 0 ∨ cl.slots.size ≤ (Int32.ofNat k).toNatClampNeg) := fun q => by
  rcases q with q | q
  · exact own_nn (c := 4000) (by omega) (Nat.le_refl _) q
  · rw [S, own_ofN hk.2 (Nat.le_refl _), own_ofN (c := 4000) (by omega) (Nat.le_refl _)] at q
    omega
theorem own_decm {k : Nat} (h : 0 < k) : Int32.ofNat k + (-1) = Int32.ofNat (k - 1) := by rw [← own_dec h, Int32.sub_eq_add_neg]
theorem own_getB {cs : List Int32} {k : Nat} (hk : k < cs.length) (hl : cs.length ≤ 4000) : (BB cs).getD (Int32.ofNat k).toNatClampNeg (.int 0) = .int ((cs.getD k 0).toInt8.toInt32) := by
  rw [own_ofN (Nat.le_of_lt (Nat.lt_of_lt_of_le hk hl)) (Nat.le_refl _)]
  simp [List.getD_eq_getElem?_getD, hk]
theorem own_getC {cs : List Int32} {k : Nat} (hk : k < cs.length) (hl : cs.length ≤ 4000) : (cs.map Value.int).getD (Int32.ofNat k).toNatClampNeg (.int 0) = .int (cs.getD k 0) := by
  rw [own_ofN (Nat.le_of_lt (Nat.lt_of_lt_of_le hk hl)) (Nat.le_refl _)]
  simp [List.getD_eq_getElem?_getD, hk]
theorem own_256 {P : Int32 → Prop} (h : ∀ n : Fin 256, P (Int32.ofNat n.val)) {c : Int32} (hc : ¬ c < 0 ∧ ¬ (255 : Int32) < c) : P c := by
  have z : (0 : Int32).toInt = 0 := rfl
  have m : (255 : Int32).toInt = 255 := rfl
  have h1 : 0 ≤ c.toInt := by have := mt Int32.lt_iff_toInt_lt.mpr hc.1; omega
  have h2 : c.toInt ≤ 255 := by have := mt Int32.lt_iff_toInt_lt.mpr hc.2; omega
  have e : Int32.ofNat c.toInt.toNat = c := Int32.toInt_inj.mp (by rw [own_toI (c := 4000) (by omega) (Nat.le_refl _)]; omega)
  have q := h ⟨c.toInt.toNat, by omega⟩
  rw [show Int32.ofNat (⟨c.toInt.toNat, by omega⟩ : Fin 256).val = c from e] at q
  exact q
theorem own_lo8 {c : Int32} (h : ¬ c < 0 ∧ ¬ (255 : Int32) < c) : c.toInt8.toInt32 &&& 255 = c := own_256 (P := fun c => c.toInt8.toInt32 &&& 255 = c) (by decide +kernel) h
theorem own_rng {cs : List Int32} (h : ∀ c ∈ cs, ¬ c < 0 ∧ ¬ (255 : Int32) < c) (k : Nat) : ¬ cs.getD k 0 < 0 ∧ ¬ (255 : Int32) < cs.getD k 0 := by
  rw [List.getD_eq_getElem?_getD]
  cases q : cs[k]? with
  | none => exact ⟨by decide, by decide⟩
  | some c => exact h c (List.mem_of_getElem? q)
theorem own_b8 {x : Int32} {c : Int32} (hc : ¬ c < 0 ∧ ¬ (255 : Int32) < c) (hx : ¬ x < 0 ∧ ¬ (255 : Int32) < x) : c.toInt8.toInt32 = x.toInt8.toInt32 ↔ c = x := ⟨fun q => by rw [← own_lo8 hc, ← own_lo8 hx, q], fun q => by rw [q]⟩
theorem own_cpB {cs : List Int32} {o n : Nat} (h : o + n ≤ cs.length) (hl : cs.length ≤ 4000) :
    (List.replicate n (.int (0 : Int32) : Value)).take (0 : Int32).toNatClampNeg ++ (List.range (Int32.ofNat n).toNatClampNeg).map (fun i => (BB cs).getD ((Int32.ofNat o).toNatClampNeg + i) (.int (0 : Int32))) ++ (List.replicate n (.int (0 : Int32) : Value)).drop ((0 : Int32).toNatClampNeg + (Int32.ofNat n).toNatClampNeg) = BB ((cs.drop o).take n) := by
  rw [own_ofN (c := 4000) (by omega) (Nat.le_refl _), own_ofN (c := 4000) (by omega) (Nat.le_refl _), show (0 : Int32).toNatClampNeg = 0 from rfl]
  have e1 : (List.replicate n (.int (0 : Int32) : Value)).drop (0 + n) = [] := by simp
  rw [e1, List.take_zero, List.nil_append, List.append_nil]
  apply List.ext_getElem?
  intro i
  by_cases hi : i < n
  · have h2 : o + i < cs.length := by omega
    simp [List.getD_eq_getElem?_getD, hi, h2, List.getElem?_take, List.getElem?_drop]
  · simp [hi, List.getElem?_take]
theorem own_lenDT {cs : List Int32} {o n : Nat} (h : o + n ≤ cs.length) : ((cs.drop o).take n).length = n := by simp; omega
theorem own_rngDT {cs : List Int32} {o n : Nat} (h : ∀ c ∈ cs, ¬ c < 0 ∧ ¬ (255 : Int32) < c) : ∀ c ∈ (cs.drop o).take n, ¬ c < 0 ∧ ¬ (255 : Int32) < c := fun c hc => h c (List.mem_of_mem_drop (List.mem_of_mem_take hc))
end Jvm.RoadKit
namespace Jvm.Pilot.@@N@@
open Jvm Jvm.ClassFile Sem Op Lib Jvm.Free Jvm.Stand Jvm.LawKit Jvm.RoadKit Bundle Jvm.Pilot.@@N@@.Jvm.D
abbrev EL : List (String × Nat) := [("java/lang/StringLatin1", 151), ("java/lang/StringLatin1", 168), ("java/lang/StringLatin1", 170), ("java/lang/StringLatin1", 172)]
theorem own_strAtoms : ∀ d ∈ Bundle.stringAtoms, d ∈ tables_1 := by decide +kernel
theorem own_strWords : ∀ d ∈ StrChars.Road.words, d ∈ tables_1 := by decide +kernel
/-- r is the place of the first x, or -1 -/
def own_Ix (cs : List Int32) (x r : Int32) : Prop := (∃ k, k < cs.length ∧ cs.getD k 0 = x ∧ (∀ j, j < k → ¬ cs.getD j 0 = x) ∧ r = Int32.ofNat k) ∨ ((∀ j, j < cs.length → ¬ cs.getD j 0 = x) ∧ r = -1)
theorem own_subA (o n : Nat) : Int32.ofNat (o + n) - Int32.ofNat o = Int32.ofNat n := by rw [own_sub (Nat.le_add_right o n), Nat.add_sub_cancel_left]
theorem own_minE {p q : Int32} (h1 : ¬ p < q) (h2 : ¬ q < p) : p = q := Int32.le_antisymm (Int32.not_lt.mp h2) (Int32.not_lt.mp h1)
theorem own_take0 {cs : List Int32} {o n : Nat} (h : n = 0) : (cs.drop o).take n = [] := by rw [h, List.take_zero]
theorem own_dropAll {cs : List Int32} {o e : Nat} (h0 : o = 0) (h : e = cs.length) : (cs.drop o).take (e - o) = cs := by subst h0 h; simp
/-- the part between the first and the last sign above a blank -/
def own_Tr (cs : List Int32) (l r : Nat) : Prop := l ≤ r ∧ r ≤ cs.length ∧ (∀ j, j < l → ¬ (32 : Int32) < cs.getD j 0) ∧ (l < cs.length → (32 : Int32) < cs.getD l 0) ∧ (∀ j, r ≤ j → j < cs.length → ¬ (32 : Int32) < cs.getD j 0) ∧ (l < r → (32 : Int32) < cs.getD (r - 1) 0)
/-- a String, or null where nothing is to be cut -/
def own_RV (Z : State) (h : Heap) (v : Value) (ds cs : List Int32) : Prop := (v = .null ∧ ds = cs) ∨ ∃ a, v = .ref a ∧ IsStr Z h a ds
theorem own_RV.keep {Z : State} {h h' : Heap} {v : Value} {ds cs : List Int32} (S : own_RV Z h v ds cs) (K : Keep h h' []) : own_RV Z h' v ds cs := by
  rcases S with q | ⟨a, q, S⟩
  · exact Or.inl q
  · exact Or.inr ⟨a, q, S.keep K⟩
theorem own_trAll {cs : List Int32} {l r : Nat} (h1 : ¬ 0 < l) (h2 : ¬ r < cs.length) (hr : r ≤ cs.length) : (cs.drop l).take (r - l) = cs := by
  have e1 : l = 0 := by omega
  have e2 : r = cs.length := by omega
  subst e1 e2; simp
theorem own_mask255 (x : Int32) : ¬ (x &&& 255) < 0 ∧ ¬ (255 : Int32) < (x &&& 255) := by
  have e : (x &&& 255).toInt = x.toInt % 256 := Jvm.Kit.i32_mask x 255 (k := 8) (by decide) (by decide)
  have z : (0 : Int32).toInt = 0 := rfl
  have m : (255 : Int32).toInt = 255 := rfl
  exact ⟨fun q => by have := Int32.lt_iff_toInt_lt.mp q; omega, fun q => by have := Int32.lt_iff_toInt_lt.mp q; omega⟩
def own_low (p : Int32) : Int32 := if p < 65 then p else if 122 < (p ||| 32) then (if (p ||| 32) < 224 then p else if 254 < (p ||| 32) then p else if (p ||| 32) = 247 then p else (p ||| 32)) else (p ||| 32)
theorem own_lowR {c : Int32} (h : ¬ c < 0 ∧ ¬ (255 : Int32) < c) : ¬ own_low c < 0 ∧ ¬ (255 : Int32) < own_low c := own_256 (P := fun c => ¬ own_low c < 0 ∧ ¬ (255 : Int32) < own_low c) (by decide +kernel) h
theorem own_mapSame {cs : List Int32} (h : ∀ j, j < cs.length → cs.getD j 0 = own_low (cs.getD j 0)) : cs.map own_low = cs := by
  apply List.ext_getElem?
  intro i
  by_cases hi : i < cs.length
  · have q := h i hi
    simp [List.getD_eq_getElem?_getD, hi] at q
    simp [hi]
    exact q.symm
  · simp [hi]
theorem own_rngMap {cs : List Int32} (h : ∀ c ∈ cs, ¬ c < 0 ∧ ¬ (255 : Int32) < c) : ∀ c ∈ cs.map own_low, ¬ c < 0 ∧ ¬ (255 : Int32) < c := fun c hc => by
  obtain ⟨d, hd, rfl⟩ := List.mem_map.mp hc
  exact own_lowR (h d hd)
/-- the target's list so far: as long as cs, its first k bytes those of the lower case -/
def own_Lw (cs : List Int32) (vs : List Value) (k : Nat) : Prop := vs.length = cs.length ∧ ∀ j, j < k → vs.getD j (.int 0) = .int ((own_low (cs.getD j 0)).toInt8.toInt32)
theorem own_Lw.step {cs : List Int32} {vs : List Value} {k : Nat} (h : own_Lw cs vs k) (hk : k < cs.length) : own_Lw cs (vs.set k (.int ((own_low (cs.getD k 0)).toInt8.toInt32))) (k + 1) := by
  refine ⟨by rw [List.length_set]; exact h.1, fun j hj => ?_⟩
  have hv : k < vs.length := by rw [h.1]; exact hk
  by_cases q : j = k
  · subst q
    simp [List.getD_eq_getElem?_getD, hv]
  · have hj' : j < k := by omega
    have e := h.2 j hj'
    rw [List.getD_eq_getElem?_getD, List.getElem?_set_ne (fun z => q z.symm), ← List.getD_eq_getElem?_getD]
    exact e
theorem own_Lw.done {cs : List Int32} {vs : List Value} (h : own_Lw cs vs cs.length) : vs = BB (cs.map own_low) := by
  apply List.ext_getElem?
  intro i
  by_cases hi : i < cs.length
  · have q := h.2 i hi
    have hv : i < vs.length := by rw [h.1]; exact hi
    simp [List.getD_eq_getElem?_getD, hi, hv] at q
    simp [hi, hv, q]
  · have hv : ¬ i < vs.length := by rw [h.1]; exact hi
    simp [hi, hv]
theorem own_Lw.first {cs : List Int32} {k : Nat} (hk : k ≤ cs.length) (hl : cs.length ≤ 4000) (hs : ∀ j, j < k → cs.getD j 0 = own_low (cs.getD j 0)) :
    own_Lw cs ((List.replicate cs.length (.int (0 : Int32) : Value)).take (0 : Int32).toNatClampNeg ++ (List.range (Int32.ofNat k).toNatClampNeg).map (fun i => (BB cs).getD ((Int32.ofNat 0).toNatClampNeg + i) (.int (0 : Int32))) ++ (List.replicate cs.length (.int (0 : Int32) : Value)).drop ((0 : Int32).toNatClampNeg + (Int32.ofNat k).toNatClampNeg)) k := by
  rw [own_ofN (k := k) (c := 4000) (by omega) (Nat.le_refl _), show (Int32.ofNat 0).toNatClampNeg = 0 from rfl, show (0 : Int32).toNatClampNeg = 0 from rfl]
  refine ⟨by simp; omega, fun j hj => ?_⟩
  have hj2 : j < cs.length := by omega
  rw [← hs j hj]
  simp [List.getD_eq_getElem?_getD, hj, hj2, List.getElem?_append]
/-- two Strings of arrays of unlike lengths are two -/
theorem own_strNe {Z : State} {h : Heap} {a b t u : Addr} {k k' : ClassId} {ty ty' : FieldType} {n n' : Int32} {vs vs' : List Value} {d d' : Value} (V : Fld Z h a "java/lang/String" "value" "[B" (.ref t)) (V' : Fld Z h b "java/lang/String" "value" "[B" (.ref u)) (A : Arv Z h t k ty n vs d) (A' : Arv Z h u k' ty' n' vs' d') (hn : n.toNatClampNeg ≠ n'.toNatClampNeg) : a ≠ b := by
  by_cases q : t = u
  · subst q
    obtain ⟨c, A1, -, S1, -⟩ := A
    obtain ⟨c', A2, -, S2, -⟩ := A'
    have e : c = c' := Option.some.inj (A1.1.symm.trans A2.1)
    subst e
    exact absurd (S1.symm.trans S2) hn
  · exact Fld.ne V V' (fun z => q (Value.ref.inj z))
theorem own_narC2 {c : Int32} (h : ¬ c < 0 ∧ ¬ (255 : Int32) < c) : nar .char (c.toUInt32.toUInt16.toUInt32.toInt32) = c := by
  have e : c.toUInt32.toUInt16.toUInt32.toInt32 = c := own_narC h
  rw [e]; exact own_narC h
theorem own_lenSmall {s : State} {args : Array Value} {t : Term} {a : Addr} {v : Value} {cl : Cell} (h : (Term.length t).eval args s none [] s = some v) (ev : t.eval args s none [] s = some (.ref a)) (hA : s.arrayAt? a = some cl) : cl.slots.size < 2 ^ 31 := by
  apply Classical.byContradiction
  intro hn
  have hn' : ¬ cl.slots.size < 2147483648 := hn
  simp [Term.eval, ev, hA, hn'] at h
/-- an empty byte[] of the start -/
theorem own_arv0 {Z : State} {args : Array Value} {t : Term} {a : Addr} (hf : Fit Z) (ev : t.eval args Z none [] Z = some (.ref a)) (hx : (Cond.arrayOf t .byte).value args Z none Z [] = some true) (hl : (Cond.eq (Term.length t) (Term.int 0)).value args Z none Z [] = some true) : ∃ k, Arv Z Z.heap a k .byte (0 : Int32) [] (.int (0 : Int32)) := by
  obtain ⟨cl, A⟩ := Arr.start ev hx
  obtain ⟨u, v, h1, h2, -, -⟩ := cmp_v (Or.inl hl)
  obtain ⟨b, cell, e1, e2, rfl⟩ := Term.length_spec h1
  cases Option.some.inj (e1.symm.trans ev)
  have hA := Arr.fin (U := Z) (Z := Z) (Vm.Alike.refl _) A
  cases Option.some.inj (hA.symm.trans e2)
  have hz : cl.slots.size.toInt32 = 0 := by
    have q := Cond.eq_ints h1 (Term.int_eval (0)) |>.symm.trans hl
    simpa using q
  have hs : cl.slots.size < 2 ^ 31 := own_lenSmall h1 ev hA
  exact ⟨_, Arv.start hf A hs hz (by decide) rfl trivial⟩

/-- q is the first place from i on, below n, of which D holds; else n -/
def own_Fst (D : Nat → Prop) (i n q : Nat) : Prop := q ≤ n ∧ (∀ j, i ≤ j → j < q → ¬ D j) ∧ (q < n → D q ∧ i ≤ q)
theorem own_Fst.base {D : Nat → Prop} {i n : Nat} (h : n ≤ i) : own_Fst D i n n := ⟨Nat.le_refl _, fun j h1 h2 => absurd h2 (by omega), fun q => absurd q (Nat.lt_irrefl _)⟩
theorem own_Fst.yes {D : Nat → Prop} {i n : Nat} (h : i < n) (d : D i) : own_Fst D i n i := ⟨Nat.le_of_lt h, fun j h1 h2 => absurd h2 (by omega), fun _ => ⟨d, Nat.le_refl _⟩⟩
theorem own_Fst.no {D : Nat → Prop} {i n q : Nat} (h : own_Fst D (i + 1) n q) (d : ¬ (i < n ∧ D i)) : own_Fst D i n q := ⟨h.1, fun j h1 h2 hd => by
  by_cases e : j = i
  · subst e; exact d ⟨by have := h.1; omega, hd⟩
  · exact h.2.1 j (by omega) h2 hd, fun z => ⟨(h.2.2 z).1, by have := (h.2.2 z).2; omega⟩⟩
theorem own_Fst.uniq {D : Nat → Prop} {n q p : Nat} (h : own_Fst D 0 n q) (g : own_Fst D 0 n p) : q = p := by
  rcases Nat.lt_trichotomy q p with z | z | z
  · exact absurd (h.2.2 (by have := g.1; omega)).1 (g.2.1 q (Nat.zero_le _) z)
  · exact z
  · exact absurd (g.2.2 (by have := h.1; omega)).1 (h.2.1 p (Nat.zero_le _) z)
/-- q is behind the last place below i and n of which D holds; else 0 -/
def own_Lst (D : Nat → Prop) (i n q : Nat) : Prop := q ≤ n ∧ q ≤ i ∧ (0 < q → D (q - 1)) ∧ ∀ j, q ≤ j → j < i → j < n → ¬ D j
theorem own_Lst.base {D : Nat → Prop} {n : Nat} : own_Lst D 0 n 0 := ⟨Nat.zero_le _, Nat.le_refl _, fun q => absurd q (Nat.lt_irrefl _), fun j _ h => absurd h (Nat.not_lt_zero _)⟩
theorem own_Lst.yes {D : Nat → Prop} {i n : Nat} (h : i < n) (d : D i) : own_Lst D (i + 1) n (i + 1) := ⟨h, Nat.le_refl _, fun _ => d, fun j h1 h2 => absurd h2 (by omega)⟩
theorem own_Lst.no {D : Nat → Prop} {i n q : Nat} (h : own_Lst D i n q) (d : ¬ (i < n ∧ D i)) : own_Lst D (i + 1) n q := ⟨h.1, by have := h.2.1; omega, h.2.2.1, fun j h1 h2 h3 hd => by
  by_cases e : j = i
  · subst e; exact d ⟨h3, hd⟩
  · exact h.2.2.2 j h1 (by omega) h3 hd⟩
theorem own_takeGet {cs : List Int32} {p j : Nat} (h : j < p) : (cs.take p).getD j 0 = cs.getD j 0 := by
  simp [List.getD_eq_getElem?_getD, List.getElem?_take, h]

def own_Sc (cs : List Int32) (x : Int32) (pp : Nat) : Prop := pp ≤ cs.length ∧ (∀ j, j < pp → ¬ cs.getD j 0 = x) ∧ (pp < cs.length → cs.getD pp 0 = x)
theorem own_Sc.fst {cs : List Int32} {x : Int32} {pp n : Nat} (h : own_Sc cs x pp) (hn : cs.length = n) : own_Fst (fun j => cs.getD j 0 = x) 0 n pp := by
  subst hn
  exact ⟨h.1, fun j _ h2 => h.2.1 j h2, fun q => ⟨h.2.2 q, Nat.zero_le _⟩⟩
theorem own_IxNeg {cs : List Int32} {x r : Int32} (hl : cs.length ≤ 4000) (h : own_Ix cs x r) (hr : r < 0) : own_Sc cs x cs.length := by
  rcases h with ⟨k, hk, -, -, rfl⟩ | ⟨h, -⟩
  · exact absurd hr (own_nn (c := 4000) (by omega) (Nat.le_refl _))
  · exact ⟨Nat.le_refl _, h, fun q => absurd q (Nat.lt_irrefl _)⟩
theorem own_IxPos {cs : List Int32} {x r : Int32} (h : own_Ix cs x r) (hr : ¬ r < 0) : ∃ k, k ≤ cs.length ∧ own_Sc cs x k ∧ r = Int32.ofNat k := by
  rcases h with ⟨k, hk, h1, h2, rfl⟩ | ⟨-, rfl⟩
  · exact ⟨k, Nat.le_of_lt hk, ⟨Nat.le_of_lt hk, h2, fun _ => h1⟩, rfl⟩
  · exact absurd (by decide) hr
theorem own_mid {cs : List Int32} {pp lf rg sq el n : Nat} (hn : cs.length = n) (hp : pp ≤ n) (hT : own_Tr (cs.take pp) lf rg) (hS : own_Fst (fun j => (32 : Int32) < cs.getD j 0) 0 pp sq) (hE : own_Lst (fun j => (32 : Int32) < cs.getD j 0) n pp el) :
    (sq < el → sq = lf ∧ el = rg) ∧ (¬ sq < el → rg - lf = 0) := by
  obtain ⟨t1, t2, t3, t4, t5, t6⟩ := hT
  have hl : (cs.take pp).length = pp := by rw [List.length_take]; omega
  rw [hl] at t2 t4 t5
  have g : ∀ j, j < pp → (cs.take pp).getD j 0 = cs.getD j 0 := fun j h => own_takeGet h
  have lr : lf < rg → sq = lf ∧ el = rg := fun q => by
    have d1 : (32 : Int32) < cs.getD lf 0 := by rw [← g lf (by omega)]; exact t4 (by omega)
    have d2 : (32 : Int32) < cs.getD (rg - 1) 0 := by rw [← g (rg - 1) (by omega)]; exact t6 q
    constructor
    · refine own_Fst.uniq hS ⟨by omega, fun j _ h => ?_, fun _ => ⟨d1, Nat.zero_le _⟩⟩
      have z := t3 j h
      rwa [g j (by omega)] at z
    · obtain ⟨e1, e2, e3, e4⟩ := hE
      rcases Nat.lt_trichotomy el rg with z | z | z
      · exact absurd d2 (e4 (rg - 1) (by omega) (by omega) (by omega))
      · exact z
      · have y := t5 (el - 1) (by omega) (by omega)
        rw [g (el - 1) (by omega)] at y
        exact absurd (e3 (by omega)) y
  constructor
  · intro q
    obtain ⟨e1, e2, e3, e4⟩ := hE
    apply lr
    apply Classical.byContradiction
    intro z
    have d := e3 (by omega)
    have q1 : el - 1 < lf ∨ rg ≤ el - 1 := by omega
    rcases q1 with y | y
    · have w := t3 (el - 1) y; rw [g (el - 1) (by omega)] at w; exact w d
    · have w := t5 (el - 1) y (by omega); rw [g (el - 1) (by omega)] at w; exact w d
  · intro q
    apply Classical.byContradiction
    intro z
    have := lr (by omega)
    omega
theorem own_midGet {cs : List Int32} {pp lf rg : Nat} (hp : pp ≤ cs.length) (hT : own_Tr (cs.take pp) lf rg) : ((((cs.take pp).drop lf).take (rg - lf)).map own_low).length = rg - lf ∧ (∀ i, i < rg - lf → ((((cs.take pp).drop lf).take (rg - lf)).map own_low).getD i 0 = own_low (cs.getD (lf + i) 0) ∧ lf + i < cs.length) := by
  obtain ⟨t1, t2, -⟩ := hT
  have hl : (cs.take pp).length = pp := by rw [List.length_take]; omega
  rw [hl] at t2
  constructor
  · simp; omega
  · intro i hi
    have h1 : lf + i < pp := by omega
    have h2 : lf + i < cs.length := by omega
    refine ⟨?_, h2⟩
    simp [List.getD_eq_getElem?_getD, List.getElem?_take, List.getElem?_drop, hi, h1, h2]
theorem own_lwA {c : Int32} (h : ¬ c < 0 ∧ ¬ (255 : Int32) < c) (h1 : ¬ c < 65) (h2 : ¬ (90 : Int32) < c) : nar .char (c + 32).toUInt32.toUInt16.toUInt32.toInt32 = own_low c := own_256 (P := fun c => ¬ c < 65 → ¬ (90 : Int32) < c → nar .char (c + 32).toUInt32.toUInt16.toUInt32.toInt32 = own_low c) (by decide +kernel) h h1 h2
theorem own_lwB {c : Int32} (h : ¬ c < 0 ∧ ¬ (255 : Int32) < c) (h1 : ¬ c < 192) (h2 : ¬ (222 : Int32) < c) (h3 : ¬ c = 215) : nar .char (c + 32).toUInt32.toUInt16.toUInt32.toInt32 = own_low c := own_256 (P := fun c => ¬ c < 192 → ¬ (222 : Int32) < c → ¬ c = 215 → nar .char (c + 32).toUInt32.toUInt16.toUInt32.toInt32 = own_low c) (by decide +kernel) h h1 h2 h3
theorem own_lwC {c : Int32} (h : ¬ c < 0 ∧ ¬ (255 : Int32) < c) (h1 : c < 65 ∨ (90 : Int32) < c) (h2 : c < 192 ∨ (222 : Int32) < c ∨ c = 215) : nar .char c = own_low c := own_256 (P := fun c => (c < 65 ∨ (90 : Int32) < c) → (c < 192 ∨ (222 : Int32) < c ∨ c = 215) → nar .char c = own_low c) (by decide +kernel) h h1 h2

theorem d11_0 : decode jdk_42_method_154_code 0 = .ok (.getstatic 38, 3) := by decide +kernel
theorem d11_3 : decode jdk_42_method_154_code 3 = .ok (.ifCond .eq 14, 3) := by decide +kernel
theorem d11_6 : decode jdk_42_method_154_code 6 = .ok (.aload_n 0, 1) := by decide +kernel
theorem d11_7 : decode jdk_42_method_154_code 7 = .ok (.getfield 15, 3) := by decide +kernel
theorem d11_10 : decode jdk_42_method_154_code 10 = .ok (.ifCond .ne 7, 3) := by decide +kernel
theorem d11_13 : decode jdk_42_method_154_code 13 = .ok (.iconst 1, 1) := by decide +kernel
theorem d11_14 : decode jdk_42_method_154_code 14 = .ok (.goto 4, 3) := by decide +kernel
theorem d11_18 : decode jdk_42_method_154_code 18 = .ok (.ireturn, 1) := by decide +kernel
theorem pn_java_lang_String : plainName "java/lang/String" = true := by first | (simp [plainName, overriddenIn]; done) | decide +kernel
abbrev RMrmIsl : Room := { frames := 0, cells := 0, slots := 0, locals := 0 }
theorem ef_rmIsl (m : MethodId) (a1 : Addr) : entryFrame m #[(.ref a1)] 1 = mkF m 0 #[.val (.ref a1)] [] := by first | (simp [entryFrame, mkF, argsToLocals, Value.category]; done) | rfl
def QrmIsl (Z : State) (zc : Int32) (fm : Value) (rt : Addr) (bl : Addr) (lg : Addr) (lv : Addr) (lk : ClassId) (ci : Addr) (a1 : Addr) (cs : List Int32) (h0 : Heap) (v : Option Value) (h : Heap) (L : List Loc) : Prop := v = some (.int (1 : Int32)) ∧ Fr Z.heap.size L ∧ h = h0
set_option maxRecDepth 65536 in
set_option maxHeartbeats 40000000 in
theorem rmIsl (l : Launch) (Z : State) (a0 : Array Value) (hw : ∀ d ∈ tables_1, d.before a0 Z = true) (zc : Int32) (fm : Value) (rt : Addr) (bl : Addr) (lg : Addr) (lv : Addr) (lk : ClassId) (ci : Addr) (S_CS : Sta Z Z.heap "java/lang/String" "COMPACT_STRINGS" "Z" (.int zc)) (hzc : ¬ zc = 0) (S_SF : Sta Z Z.heap "jdk/internal/util/Preconditions" "SIOOBE_FORMATTER" "Ljava/util/function/BiFunction;" fm) (h_fm : fm.isRef = true) (S_RT : Sta Z Z.heap "java/util/Locale" "ROOT" "Ljava/util/Locale;" (.ref rt)) (E_rt : Exa Z Z.heap rt "java/util/Locale") (F_bl : Fld Z Z.heap rt "java/util/Locale" "baseLocale" "Lsun/util/locale/BaseLocale;" (.ref bl)) (E_bl : Exa Z Z.heap bl "sun/util/locale/BaseLocale") (F_lg : Fld Z Z.heap bl "sun/util/locale/BaseLocale" "language" "Ljava/lang/String;" (.ref lg)) (E_lg : Exa Z Z.heap lg "java/lang/String") (F_lv : Fld Z Z.heap lg "java/lang/String" "value" "[B" (.ref lv)) (A_lv : Arv Z Z.heap lv lk .byte (0 : Int32) [] (.int (0 : Int32))) (S_CI : Sta Z Z.heap "java/lang/CharacterDataLatin1" "instance" "Ljava/lang/CharacterDataLatin1;" (.ref ci)) (E_ci : Exa Z Z.heap ci "java/lang/CharacterDataLatin1") (ws : List Jvm.Cond) (a1 : Addr) (cs : List Int32) (h0 : Heap) (O0 : Ext Z.heap h0) (Ss : IsStr Z h0 a1 cs) :
    MetFree l (⟨"java/lang/String", "isLatin1", "()Z"⟩ : MethodName) (head1 (Jvm.Cond.code (⟨"java/lang/String", "isLatin1", "()Z"⟩ : MethodName) jdk_42_method_154_code 1 (some .boolean) :: ws) RMrmIsl) (fun a U => a = #[(.ref a1)] ∧ Z.Warmed39 U.vm ∧ U.heap = h0) (fun _ _ _ _ _ => True) (fun _ U o U' => ∃ v L, o = .returned v ∧ QrmIsl Z zc fm rt bl lg lv lk ci a1 cs h0 v U'.heap L ∧ FrameEnd U o U' L RMrmIsl.cells RMrmIsl.slots) := by
  refine MetFree.of_bodySF (plainFor_of_name pn_java_lang_String) hisR ?_
  intro p e s m args below meth c s₁ Bd hml0 hP hK
  obtain ⟨rfl, hZ, hh⟩ := hP
  have hx := Bd.exec
  have hby := Bd.bytes
  have hlk : meth.locks = false := BodyLoose.notSynchronized Bd
  have hret := Bd.returns
  have hml : c.maxLocals = 1 := hml0
  have hown : s.vm.findClass "java/lang/String" = some m.cls := findClass_of_methodNamed Bd.named
  have hnm := (name_of_methodNamed Bd.named Bd.method).1
  have X0 : Stand p l e RMrmIsl s m #[(.ref a1)] below meth c s₁ [] 0 0 := Stand.of_body Bd
  have e0 : s₁.heap = h0 := by rw [← hh, Bd.state]; rfl
  have N0 := Fr.nil Z.heap.size
  show OEnd p e below (GN s (QrmIsl Z zc fm rt bl lg lv lk ci a1 cs h0) RMrmIsl.cells RMrmIsl.slots) _
  refine OEnd.of (fun tq kq => castTop (ef_rmIsl m a1) kq) ?_
  have So1 := Ss
  obtain ⟨Eo1, Co1, ⟨to1, ko1, Vo1, Ao1⟩, Bo1, lo1⟩ := So1
  obtain ⟨T2, X2, e2, st2⟩ := getS2 X0 hx hZ hown (host := "") (Or.inl (hw _ (List.mem_of_getElem? (i := 18) rfl))) Via.refl e0 (Sta.ext O0 S_CS) (g := (mkF m 0 #[.val (.ref a1)] [])) rfl (hb hby d11_0)
  refine OEnd.of st2 ?_
  show OEnd p e below _ (T2.setTop (mkF m 3 #[.val (.ref a1)] [(.int zc)]))
  refine OEnd.of (fun tq kq => XS.ifNo X2.here hx rfl (hb hby d11_3) rfl ((if0 _ _).trans (feq hzc).1) kq) ?_
  show OEnd p e below _ (T2.setTop (mkF m 6 #[.val (.ref a1)] []))
  refine OEnd.of (fun tq kq => XS.aloadN X2.here hx rfl (hb hby d11_6) rfl rfl kq) ?_
  show OEnd p e below _ (T2.setTop (mkF m 7 #[.val (.ref a1)] [(.ref a1)]))
  obtain ⟨T3, X3, e3, st3⟩ := getF X2 hx hZ hown (host := "") (Or.inl (hw _ (List.mem_of_getElem? (i := 30) rfl))) Via.refl e2 Co1 (g := (mkF m 7 #[.val (.ref a1)] [(.ref a1)])) rfl rfl (hb hby d11_7)
  refine OEnd.of st3 ?_
  show OEnd p e below _ (T3.setTop (mkF m 10 #[.val (.ref a1)] [(.int (0 : Int32))]))
  refine OEnd.of (fun tq kq => XS.ifNo X3.here hx rfl (hb hby d11_10) rfl ((if0 _ _).trans (teq (by decide : ((0 : Int32) = (0 : Int32)))).2) kq) ?_
  show OEnd p e below _ (T3.setTop (mkF m 13 #[.val (.ref a1)] []))
  refine OEnd.of (fun tq kq => XS.iconst X3.here hx rfl (hb hby d11_13) kq) ?_
  show OEnd p e below _ (T3.setTop (mkF m 14 #[.val (.ref a1)] [(.int (1 : Int32))]))
  refine OEnd.of (fun tq kq => XS.goto X3.here hx rfl (pc0 := 14) (pc' := 18) rfl (hb hby d11_14) (by decide) (by decide) kq) ?_
  show OEnd p e below _ (T3.setTop (mkF m 18 #[.val (.ref a1)] [(.int (1 : Int32))]))
  exact OEnd.retN X3 hx hlk e3 (t := .boolean) hret (by simp) (hb hby d11_18) ⟨rfl, N0, rfl⟩ (by decide) (by decide)
theorem d13_0 : decode jdk_42_method_152_code 0 = .ok (.getstatic 38, 3) := by decide +kernel
theorem d13_3 : decode jdk_42_method_152_code 3 = .ok (.ifCond .eq 10, 3) := by decide +kernel
theorem d13_6 : decode jdk_42_method_152_code 6 = .ok (.aload_n 0, 1) := by decide +kernel
theorem d13_7 : decode jdk_42_method_152_code 7 = .ok (.getfield 15, 3) := by decide +kernel
theorem d13_10 : decode jdk_42_method_152_code 10 = .ok (.goto 4, 3) := by decide +kernel
theorem d13_14 : decode jdk_42_method_152_code 14 = .ok (.ireturn, 1) := by decide +kernel
abbrev RMrmCod : Room := { frames := 0, cells := 0, slots := 0, locals := 0 }
theorem ef_rmCod (m : MethodId) (a1 : Addr) : entryFrame m #[(.ref a1)] 1 = mkF m 0 #[.val (.ref a1)] [] := by first | (simp [entryFrame, mkF, argsToLocals, Value.category]; done) | rfl
def QrmCod (Z : State) (zc : Int32) (fm : Value) (rt : Addr) (bl : Addr) (lg : Addr) (lv : Addr) (lk : ClassId) (ci : Addr) (a1 : Addr) (cs : List Int32) (h0 : Heap) (v : Option Value) (h : Heap) (L : List Loc) : Prop := v = some (.int (0 : Int32)) ∧ Fr Z.heap.size L ∧ h = h0
set_option maxRecDepth 65536 in
set_option maxHeartbeats 40000000 in
theorem rmCod (l : Launch) (Z : State) (a0 : Array Value) (hw : ∀ d ∈ tables_1, d.before a0 Z = true) (zc : Int32) (fm : Value) (rt : Addr) (bl : Addr) (lg : Addr) (lv : Addr) (lk : ClassId) (ci : Addr) (S_CS : Sta Z Z.heap "java/lang/String" "COMPACT_STRINGS" "Z" (.int zc)) (hzc : ¬ zc = 0) (S_SF : Sta Z Z.heap "jdk/internal/util/Preconditions" "SIOOBE_FORMATTER" "Ljava/util/function/BiFunction;" fm) (h_fm : fm.isRef = true) (S_RT : Sta Z Z.heap "java/util/Locale" "ROOT" "Ljava/util/Locale;" (.ref rt)) (E_rt : Exa Z Z.heap rt "java/util/Locale") (F_bl : Fld Z Z.heap rt "java/util/Locale" "baseLocale" "Lsun/util/locale/BaseLocale;" (.ref bl)) (E_bl : Exa Z Z.heap bl "sun/util/locale/BaseLocale") (F_lg : Fld Z Z.heap bl "sun/util/locale/BaseLocale" "language" "Ljava/lang/String;" (.ref lg)) (E_lg : Exa Z Z.heap lg "java/lang/String") (F_lv : Fld Z Z.heap lg "java/lang/String" "value" "[B" (.ref lv)) (A_lv : Arv Z Z.heap lv lk .byte (0 : Int32) [] (.int (0 : Int32))) (S_CI : Sta Z Z.heap "java/lang/CharacterDataLatin1" "instance" "Ljava/lang/CharacterDataLatin1;" (.ref ci)) (E_ci : Exa Z Z.heap ci "java/lang/CharacterDataLatin1") (ws : List Jvm.Cond) (a1 : Addr) (cs : List Int32) (h0 : Heap) (O0 : Ext Z.heap h0) (Ss : IsStr Z h0 a1 cs) :
    MetFree l (⟨"java/lang/String", "coder", "()B"⟩ : MethodName) (head1 (Jvm.Cond.code (⟨"java/lang/String", "coder", "()B"⟩ : MethodName) jdk_42_method_152_code 1 (some .byte) :: ws) RMrmCod) (fun a U => a = #[(.ref a1)] ∧ Z.Warmed39 U.vm ∧ U.heap = h0) (fun _ _ _ _ _ => True) (fun _ U o U' => ∃ v L, o = .returned v ∧ QrmCod Z zc fm rt bl lg lv lk ci a1 cs h0 v U'.heap L ∧ FrameEnd U o U' L RMrmCod.cells RMrmCod.slots) := by
  refine MetFree.of_bodySF (plainFor_of_name pn_java_lang_String) hisR ?_
  intro p e s m args below meth c s₁ Bd hml0 hP hK
  obtain ⟨rfl, hZ, hh⟩ := hP
  have hx := Bd.exec
  have hby := Bd.bytes
  have hlk : meth.locks = false := BodyLoose.notSynchronized Bd
  have hret := Bd.returns
  have hml : c.maxLocals = 1 := hml0
  have hown : s.vm.findClass "java/lang/String" = some m.cls := findClass_of_methodNamed Bd.named
  have hnm := (name_of_methodNamed Bd.named Bd.method).1
  have X0 : Stand p l e RMrmCod s m #[(.ref a1)] below meth c s₁ [] 0 0 := Stand.of_body Bd
  have e0 : s₁.heap = h0 := by rw [← hh, Bd.state]; rfl
  have N0 := Fr.nil Z.heap.size
  show OEnd p e below (GN s (QrmCod Z zc fm rt bl lg lv lk ci a1 cs h0) RMrmCod.cells RMrmCod.slots) _
  refine OEnd.of (fun tq kq => castTop (ef_rmCod m a1) kq) ?_
  have So4 := Ss
  obtain ⟨Eo4, Co4, ⟨to4, ko4, Vo4, Ao4⟩, Bo4, lo4⟩ := So4
  obtain ⟨T5, X5, e5, st5⟩ := getS2 X0 hx hZ hown (host := "") (Or.inl (hw _ (List.mem_of_getElem? (i := 18) rfl))) Via.refl e0 (Sta.ext O0 S_CS) (g := (mkF m 0 #[.val (.ref a1)] [])) rfl (hb hby d13_0)
  refine OEnd.of st5 ?_
  show OEnd p e below _ (T5.setTop (mkF m 3 #[.val (.ref a1)] [(.int zc)]))
  refine OEnd.of (fun tq kq => XS.ifNo X5.here hx rfl (hb hby d13_3) rfl ((if0 _ _).trans (feq hzc).1) kq) ?_
  show OEnd p e below _ (T5.setTop (mkF m 6 #[.val (.ref a1)] []))
  refine OEnd.of (fun tq kq => XS.aloadN X5.here hx rfl (hb hby d13_6) rfl rfl kq) ?_
  show OEnd p e below _ (T5.setTop (mkF m 7 #[.val (.ref a1)] [(.ref a1)]))
  obtain ⟨T6, X6, e6, st6⟩ := getF X5 hx hZ hown (host := "") (Or.inl (hw _ (List.mem_of_getElem? (i := 30) rfl))) Via.refl e5 Co4 (g := (mkF m 7 #[.val (.ref a1)] [(.ref a1)])) rfl rfl (hb hby d13_7)
  refine OEnd.of st6 ?_
  show OEnd p e below _ (T6.setTop (mkF m 10 #[.val (.ref a1)] [(.int (0 : Int32))]))
  refine OEnd.of (fun tq kq => XS.goto X6.here hx rfl (pc0 := 10) (pc' := 14) rfl (hb hby d13_10) (by decide) (by decide) kq) ?_
  show OEnd p e below _ (T6.setTop (mkF m 14 #[.val (.ref a1)] [(.int (0 : Int32))]))
  exact OEnd.retN X6 hx hlk e6 (t := .byte) hret (by simp) (hb hby d13_14) ⟨rfl, N0, rfl⟩ (by decide) (by decide)
theorem pd_2829B : parseMethodDescriptor "()B" = some ⟨[], some .byte⟩ := by decide +kernel
theorem d12_0 : decode jdk_42_method_54_code 0 = .ok (.aload_n 0, 1) := by decide +kernel
theorem d12_1 : decode jdk_42_method_54_code 1 = .ok (.getfield 9, 3) := by decide +kernel
theorem d12_4 : decode jdk_42_method_54_code 4 = .ok (.arraylength, 1) := by decide +kernel
theorem d12_5 : decode jdk_42_method_54_code 5 = .ok (.aload_n 0, 1) := by decide +kernel
theorem d12_6 : decode jdk_42_method_54_code 6 = .ok (.invokevirtual 335, 3) := by decide +kernel
theorem d12_9 : decode jdk_42_method_54_code 9 = .ok (.ishr, 1) := by decide +kernel
theorem d12_10 : decode jdk_42_method_54_code 10 = .ok (.ireturn, 1) := by decide +kernel
abbrev RMrmLen : Room := { frames := 1, cells := 0, slots := 0, locals := 13 }
theorem ef_rmLen (m : MethodId) (a1 : Addr) : entryFrame m #[(.ref a1)] 1 = mkF m 0 #[.val (.ref a1)] [] := by first | (simp [entryFrame, mkF, argsToLocals, Value.category]; done) | rfl
def QrmLen (Z : State) (zc : Int32) (fm : Value) (rt : Addr) (bl : Addr) (lg : Addr) (lv : Addr) (lk : ClassId) (ci : Addr) (a1 : Addr) (cs : List Int32) (h0 : Heap) (v : Option Value) (h : Heap) (L : List Loc) : Prop := v = some (.int (Int32.ofNat cs.length)) ∧ Fr Z.heap.size L ∧ h = h0
set_option maxRecDepth 65536 in
set_option maxHeartbeats 40000000 in
theorem rmLen (l : Launch) (Z : State) (a0 : Array Value) (hw : ∀ d ∈ tables_1, d.before a0 Z = true) (zc : Int32) (fm : Value) (rt : Addr) (bl : Addr) (lg : Addr) (lv : Addr) (lk : ClassId) (ci : Addr) (S_CS : Sta Z Z.heap "java/lang/String" "COMPACT_STRINGS" "Z" (.int zc)) (hzc : ¬ zc = 0) (S_SF : Sta Z Z.heap "jdk/internal/util/Preconditions" "SIOOBE_FORMATTER" "Ljava/util/function/BiFunction;" fm) (h_fm : fm.isRef = true) (S_RT : Sta Z Z.heap "java/util/Locale" "ROOT" "Ljava/util/Locale;" (.ref rt)) (E_rt : Exa Z Z.heap rt "java/util/Locale") (F_bl : Fld Z Z.heap rt "java/util/Locale" "baseLocale" "Lsun/util/locale/BaseLocale;" (.ref bl)) (E_bl : Exa Z Z.heap bl "sun/util/locale/BaseLocale") (F_lg : Fld Z Z.heap bl "sun/util/locale/BaseLocale" "language" "Ljava/lang/String;" (.ref lg)) (E_lg : Exa Z Z.heap lg "java/lang/String") (F_lv : Fld Z Z.heap lg "java/lang/String" "value" "[B" (.ref lv)) (A_lv : Arv Z Z.heap lv lk .byte (0 : Int32) [] (.int (0 : Int32))) (S_CI : Sta Z Z.heap "java/lang/CharacterDataLatin1" "instance" "Ljava/lang/CharacterDataLatin1;" (.ref ci)) (E_ci : Exa Z Z.heap ci "java/lang/CharacterDataLatin1") (ws : List Jvm.Cond) (a1 : Addr) (cs : List Int32) (h0 : Heap) (O0 : Ext Z.heap h0) (Ss : IsStr Z h0 a1 cs) :
    MetFree l (⟨"java/lang/String", "length", "()I"⟩ : MethodName) (head1 (Jvm.Cond.code (⟨"java/lang/String", "length", "()I"⟩ : MethodName) jdk_42_method_54_code 1 (some .int) :: ws) RMrmLen) (fun a U => a = #[(.ref a1)] ∧ Z.Warmed39 U.vm ∧ U.heap = h0) (fun _ _ _ _ _ => True) (fun _ U o U' => ∃ v L, o = .returned v ∧ QrmLen Z zc fm rt bl lg lv lk ci a1 cs h0 v U'.heap L ∧ FrameEnd U o U' L RMrmLen.cells RMrmLen.slots) := by
  refine MetFree.of_bodySF (plainFor_of_name pn_java_lang_String) hisR ?_
  intro p e s m args below meth c s₁ Bd hml0 hP hK
  obtain ⟨rfl, hZ, hh⟩ := hP
  have hx := Bd.exec
  have hby := Bd.bytes
  have hlk : meth.locks = false := BodyLoose.notSynchronized Bd
  have hret := Bd.returns
  have hml : c.maxLocals = 1 := hml0
  have hown : s.vm.findClass "java/lang/String" = some m.cls := findClass_of_methodNamed Bd.named
  have hnm := (name_of_methodNamed Bd.named Bd.method).1
  have X0 : Stand p l e RMrmLen s m #[(.ref a1)] below meth c s₁ [] 0 0 := Stand.of_body Bd
  have e0 : s₁.heap = h0 := by rw [← hh, Bd.state]; rfl
  have N0 := Fr.nil Z.heap.size
  show OEnd p e below (GN s (QrmLen Z zc fm rt bl lg lv lk ci a1 cs h0) RMrmLen.cells RMrmLen.slots) _
  refine OEnd.of (fun tq kq => castTop (ef_rmLen m a1) kq) ?_
  have So7 := Ss
  obtain ⟨Eo7, Co7, ⟨to7, ko7, Vo7, Ao7⟩, Bo7, lo7⟩ := So7
  refine OEnd.of (fun tq kq => XS.aloadN X0.here hx rfl (hb hby d12_0) rfl rfl kq) ?_
  show OEnd p e below _ (s₁.setTop (mkF m 1 #[.val (.ref a1)] [(.ref a1)]))
  obtain ⟨T8, X8, e8, st8⟩ := getF X0 hx hZ hown (host := "") (Or.inl (hw _ (List.mem_of_getElem? (i := 32) rfl))) Via.refl e0 Vo7 (g := (mkF m 1 #[.val (.ref a1)] [(.ref a1)])) rfl rfl (hb hby d12_1)
  refine OEnd.of st8 ?_
  show OEnd p e below _ (T8.setTop (mkF m 4 #[.val (.ref a1)] [(.ref to7)]))
  have Vc9 := Ao7
  obtain ⟨cl9, Ar9, -, S9, N9, -, -⟩ := Vc9
  refine OEnd.of (X8.arraylength hx (by rw [e8]; exact Ar9.1) (State.isArrayOf_alike hZ.alike Ar9.2.1) (g := (mkF m 4 #[.val (.ref a1)] [(.ref to7)])) rfl rfl (hb hby d12_4)) ?_
  rw [len_of S9 N9]
  show OEnd p e below _ (T8.setTop (mkF m 5 #[.val (.ref a1)] [(.int (Int32.ofNat cs.length))]))
  refine OEnd.of (fun tq kq => XS.aloadN X8.here hx rfl (hb hby d12_5) rfl rfl kq) ?_
  show OEnd p e below _ (T8.setTop (mkF m 6 #[.val (.ref a1)] [(.ref a1), (.int (Int32.ofNat cs.length))]))
  obtain ⟨cq10, kq10, q10a, q10b, q10c⟩ := isOf hZ e8 Eo7
  obtain ⟨_, _, ⟨T10, L10, k10, n10⟩, -, X10, ⟨Lc10, hQ10, l10, y10, z10⟩, st10⟩ := X8.virtualBack hx (y := (⟨"java/lang/String", "coder", "()B"⟩ : MethodName)) (z := (⟨"java/lang/String", "coder", "()B"⟩ : MethodName)) hown (mvT hZ (hw _ (List.mem_of_getElem? (i := 58) rfl))) (mvT hZ (hw _ (List.mem_of_getElem? (i := 59) rfl))) (notFace_of_selects (args := #[]) (mvT hZ (hw _ (List.mem_of_getElem? (i := 61) rfl)))) (mvT hZ (hw _ (List.mem_of_getElem? (i := 61) rfl))) (mvT hZ (hw _ (List.mem_of_getElem? (i := 60) rfl))) (by decide) (backOf (W := 1) (rmCod l Z a0 hw zc fm rt bl lg lv lk ci S_CS hzc S_SF h_fm S_RT E_rt F_bl E_bl F_lg E_lg F_lv A_lv S_CI E_ci [] a1 cs h0 O0 Ss) hZ (hw _ (List.mem_of_getElem? (i := 62) rfl)) (hw _ (List.mem_of_getElem? (i := 7) rfl)) (by decide) (by decide)) q10a q10c (g := (mkF m 6 #[.val (.ref a1)] [(.ref a1), (.int (Int32.ofNat cs.length))])) rfl (by rw [hml]; rfl) (Steps.refl _) (argsL := []) (rest := [(.int (Int32.ofNat cs.length))]) (lenOf pd_2829B rfl) rfl (by show 2 * 0 + _ ≤ _; exact Nat.le_of_eq rfl) (hb hby d12_6) (fun _ _ => ⟨rfl, e8, (by decide : 0 + 0 ≤ _), (by decide : 0 + 0 ≤ _)⟩)
  dsimp only [Pt.U, Pt.locs, Pt.cells, Pt.slots] at X10 l10 y10 z10 st10 hQ10
  subst l10 y10 z10
  obtain ⟨rfl, Nq10, e10⟩ := hQ10
  have N11 := Fr.app N0 Nq10
  refine OEnd.of (fun tq kq => st10.trans kq) ?_
  show OEnd p e below _ (T10.setTop (mkF m 9 #[.val (.ref a1)] [(.int (0 : Int32)), (.int (Int32.ofNat cs.length))]))
  refine OEnd.of (fun tq kq => XS.ishr X10.here hx rfl (hb hby d12_9) rfl kq) ?_
  show OEnd p e below _ (T10.setTop (mkF m 10 #[.val (.ref a1)] [(.int ((Int32.ofNat cs.length) >>> ((0 : Int32) &&& 31)))]))
  rw [show ((Int32.ofNat cs.length) >>> ((0 : Int32) &&& 31)) = (Int32.ofNat cs.length) from own_shr0 _]
  show OEnd p e below _ (T10.setTop (mkF m 10 #[.val (.ref a1)] [(.int (Int32.ofNat cs.length))]))
  exact OEnd.retI X10 hx hlk e10 hret (hb hby d12_10) ⟨rfl, N11, rfl⟩ (by decide) (by decide)
theorem d15_0 : decode jdk_43_method_4_code 0 = .ok (.iload_n 0, 1) := by decide +kernel
theorem d15_1 : decode jdk_43_method_4_code 1 = .ok (.ifCond .lt 14, 3) := by decide +kernel
theorem d15_4 : decode jdk_43_method_4_code 4 = .ok (.iload_n 0, 1) := by decide +kernel
theorem d15_5 : decode jdk_43_method_4_code 5 = .ok (.sipush 255, 3) := by decide +kernel
theorem d15_8 : decode jdk_43_method_4_code 8 = .ok (.if_icmp .gt 7, 3) := by decide +kernel
theorem d15_11 : decode jdk_43_method_4_code 11 = .ok (.iconst 1, 1) := by decide +kernel
theorem d15_12 : decode jdk_43_method_4_code 12 = .ok (.goto 4, 3) := by decide +kernel
theorem d15_16 : decode jdk_43_method_4_code 16 = .ok (.ireturn, 1) := by decide +kernel
theorem pn_java_lang_StringLatin1 : plainName "java/lang/StringLatin1" = true := by first | (simp [plainName, overriddenIn]; done) | decide +kernel
abbrev RMrmCanI : Room := { frames := 0, cells := 0, slots := 0, locals := 0 }
theorem ef_rmCanI (m : MethodId) (p1 : Int32) : entryFrame m #[(.int p1)] 1 = mkF m 0 #[.val (.int p1)] [] := by first | (simp [entryFrame, mkF, argsToLocals, Value.category]; done) | rfl
def QrmCanI (Z : State) (zc : Int32) (fm : Value) (rt : Addr) (bl : Addr) (lg : Addr) (lv : Addr) (lk : ClassId) (ci : Addr) (p1 : Int32) (h0 : Heap) (v : Option Value) (h : Heap) (L : List Loc) : Prop := v = some (.int (1 : Int32)) ∧ Fr Z.heap.size L ∧ h = h0
set_option maxRecDepth 65536 in
set_option maxHeartbeats 40000000 in
theorem rmCanI (l : Launch) (Z : State) (a0 : Array Value) (hw : ∀ d ∈ tables_1, d.before a0 Z = true) (zc : Int32) (fm : Value) (rt : Addr) (bl : Addr) (lg : Addr) (lv : Addr) (lk : ClassId) (ci : Addr) (S_CS : Sta Z Z.heap "java/lang/String" "COMPACT_STRINGS" "Z" (.int zc)) (hzc : ¬ zc = 0) (S_SF : Sta Z Z.heap "jdk/internal/util/Preconditions" "SIOOBE_FORMATTER" "Ljava/util/function/BiFunction;" fm) (h_fm : fm.isRef = true) (S_RT : Sta Z Z.heap "java/util/Locale" "ROOT" "Ljava/util/Locale;" (.ref rt)) (E_rt : Exa Z Z.heap rt "java/util/Locale") (F_bl : Fld Z Z.heap rt "java/util/Locale" "baseLocale" "Lsun/util/locale/BaseLocale;" (.ref bl)) (E_bl : Exa Z Z.heap bl "sun/util/locale/BaseLocale") (F_lg : Fld Z Z.heap bl "sun/util/locale/BaseLocale" "language" "Ljava/lang/String;" (.ref lg)) (E_lg : Exa Z Z.heap lg "java/lang/String") (F_lv : Fld Z Z.heap lg "java/lang/String" "value" "[B" (.ref lv)) (A_lv : Arv Z Z.heap lv lk .byte (0 : Int32) [] (.int (0 : Int32))) (S_CI : Sta Z Z.heap "java/lang/CharacterDataLatin1" "instance" "Ljava/lang/CharacterDataLatin1;" (.ref ci)) (E_ci : Exa Z Z.heap ci "java/lang/CharacterDataLatin1") (ws : List Jvm.Cond) (p1 : Int32) (h0 : Heap) (O0 : Ext Z.heap h0) (hp : ¬ p1 < 0 ∧ ¬ (255 : Int32) < p1) :
    MetFree l (⟨"java/lang/StringLatin1", "canEncode", "(I)Z"⟩ : MethodName) (head1 (Jvm.Cond.code (⟨"java/lang/StringLatin1", "canEncode", "(I)Z"⟩ : MethodName) jdk_43_method_4_code 1 (some .boolean) :: ws) RMrmCanI) (fun a U => a = #[(.int p1)] ∧ Z.Warmed39 U.vm ∧ U.heap = h0) (fun _ _ _ _ _ => True) (fun _ U o U' => ∃ v L, o = .returned v ∧ QrmCanI Z zc fm rt bl lg lv lk ci p1 h0 v U'.heap L ∧ FrameEnd U o U' L RMrmCanI.cells RMrmCanI.slots) := by
  refine MetFree.of_bodySF (plainFor_of_name pn_java_lang_StringLatin1) hisR ?_
  intro p e s m args below meth c s₁ Bd hml0 hP hK
  obtain ⟨rfl, hZ, hh⟩ := hP
  have hx := Bd.exec
  have hby := Bd.bytes
  have hlk : meth.locks = false := BodyLoose.notSynchronized Bd
  have hret := Bd.returns
  have hml : c.maxLocals = 1 := hml0
  have hown : s.vm.findClass "java/lang/StringLatin1" = some m.cls := findClass_of_methodNamed Bd.named
  have hnm := (name_of_methodNamed Bd.named Bd.method).1
  have X0 : Stand p l e RMrmCanI s m #[(.int p1)] below meth c s₁ [] 0 0 := Stand.of_body Bd
  have e0 : s₁.heap = h0 := by rw [← hh, Bd.state]; rfl
  have N0 := Fr.nil Z.heap.size
  show OEnd p e below (GN s (QrmCanI Z zc fm rt bl lg lv lk ci p1 h0) RMrmCanI.cells RMrmCanI.slots) _
  refine OEnd.of (fun tq kq => castTop (ef_rmCanI m p1) kq) ?_
  refine OEnd.of (fun tq kq => XS.iloadN X0.here hx rfl (hb hby d15_0) rfl kq) ?_
  show OEnd p e below _ (s₁.setTop (mkF m 1 #[.val (.int p1)] [(.int p1)]))
  refine OEnd.of (fun tq kq => XS.ifNo X0.here hx rfl (hb hby d15_1) rfl ((if0 _ _).trans (flt hp.1).1) kq) ?_
  show OEnd p e below _ (s₁.setTop (mkF m 4 #[.val (.int p1)] []))
  refine OEnd.of (fun tq kq => XS.iloadN X0.here hx rfl (hb hby d15_4) rfl kq) ?_
  show OEnd p e below _ (s₁.setTop (mkF m 5 #[.val (.int p1)] [(.int p1)]))
  refine OEnd.of (fun tq kq => XS.sipush X0.here hx rfl (hb hby d15_5) kq) ?_
  show OEnd p e below _ (s₁.setTop (mkF m 8 #[.val (.int p1)] [(.int (255 : Int32)), (.int p1)]))
  refine OEnd.of (fun tq kq => XS.icmpNo X0.here hx rfl (hb hby d15_8) rfl (flt hp.2).2.2.1 kq) ?_
  show OEnd p e below _ (s₁.setTop (mkF m 11 #[.val (.int p1)] []))
  refine OEnd.of (fun tq kq => XS.iconst X0.here hx rfl (hb hby d15_11) kq) ?_
  show OEnd p e below _ (s₁.setTop (mkF m 12 #[.val (.int p1)] [(.int (1 : Int32))]))
  refine OEnd.of (fun tq kq => XS.goto X0.here hx rfl (pc0 := 12) (pc' := 16) rfl (hb hby d15_12) (by decide) (by decide) kq) ?_
  show OEnd p e below _ (s₁.setTop (mkF m 16 #[.val (.int p1)] [(.int (1 : Int32))]))
  exact OEnd.retN X0 hx hlk e0 (t := .boolean) hret (by simp) (hb hby d15_16) ⟨rfl, N0, rfl⟩ (by decide) (by decide)
theorem d16_0 : decode jdk_29_method_65_code 0 = .ok (.iload_n 0, 1) := by decide +kernel
theorem d16_1 : decode jdk_29_method_65_code 1 = .ok (.iload_n 1, 1) := by decide +kernel
theorem d16_2 : decode jdk_29_method_65_code 2 = .ok (.if_icmp .lt 7, 3) := by decide +kernel
theorem d16_5 : decode jdk_29_method_65_code 5 = .ok (.iload_n 0, 1) := by decide +kernel
theorem d16_6 : decode jdk_29_method_65_code 6 = .ok (.goto 4, 3) := by decide +kernel
theorem d16_10 : decode jdk_29_method_65_code 10 = .ok (.ireturn, 1) := by decide +kernel
abbrev RMrmMax0 : Room := { frames := 0, cells := 0, slots := 0, locals := 0 }
theorem ef_rmMax0 (m : MethodId)  : entryFrame m #[(.int (0 : Int32)), (.int (0 : Int32))] 2 = mkF m 0 #[.val (.int (0 : Int32)), .val (.int (0 : Int32))] [] := by first | (simp [entryFrame, mkF, argsToLocals, Value.category]; done) | rfl
def QrmMax0 (Z : State) (zc : Int32) (fm : Value) (rt : Addr) (bl : Addr) (lg : Addr) (lv : Addr) (lk : ClassId) (ci : Addr)  (h0 : Heap) (v : Option Value) (h : Heap) (L : List Loc) : Prop := v = some (.int (0 : Int32)) ∧ Fr Z.heap.size L ∧ h = h0
set_option maxRecDepth 65536 in
set_option maxHeartbeats 40000000 in
theorem rmMax0 (l : Launch) (Z : State) (a0 : Array Value) (hw : ∀ d ∈ tables_1, d.before a0 Z = true) (zc : Int32) (fm : Value) (rt : Addr) (bl : Addr) (lg : Addr) (lv : Addr) (lk : ClassId) (ci : Addr) (S_CS : Sta Z Z.heap "java/lang/String" "COMPACT_STRINGS" "Z" (.int zc)) (hzc : ¬ zc = 0) (S_SF : Sta Z Z.heap "jdk/internal/util/Preconditions" "SIOOBE_FORMATTER" "Ljava/util/function/BiFunction;" fm) (h_fm : fm.isRef = true) (S_RT : Sta Z Z.heap "java/util/Locale" "ROOT" "Ljava/util/Locale;" (.ref rt)) (E_rt : Exa Z Z.heap rt "java/util/Locale") (F_bl : Fld Z Z.heap rt "java/util/Locale" "baseLocale" "Lsun/util/locale/BaseLocale;" (.ref bl)) (E_bl : Exa Z Z.heap bl "sun/util/locale/BaseLocale") (F_lg : Fld Z Z.heap bl "sun/util/locale/BaseLocale" "language" "Ljava/lang/String;" (.ref lg)) (E_lg : Exa Z Z.heap lg "java/lang/String") (F_lv : Fld Z Z.heap lg "java/lang/String" "value" "[B" (.ref lv)) (A_lv : Arv Z Z.heap lv lk .byte (0 : Int32) [] (.int (0 : Int32))) (S_CI : Sta Z Z.heap "java/lang/CharacterDataLatin1" "instance" "Ljava/lang/CharacterDataLatin1;" (.ref ci)) (E_ci : Exa Z Z.heap ci "java/lang/CharacterDataLatin1") (ws : List Jvm.Cond)  (h0 : Heap) (O0 : Ext Z.heap h0) :
    MetFree l (⟨"java/lang/Math", "max", "(II)I"⟩ : MethodName) (head1 (Jvm.Cond.code (⟨"java/lang/Math", "max", "(II)I"⟩ : MethodName) jdk_29_method_65_code 2 (some .int) :: ws) RMrmMax0) (fun a U => a = #[(.int (0 : Int32)), (.int (0 : Int32))] ∧ Z.Warmed39 U.vm ∧ U.heap = h0) (fun _ _ _ _ _ => True) (fun _ U o U' => ∃ v L, o = .returned v ∧ QrmMax0 Z zc fm rt bl lg lv lk ci  h0 v U'.heap L ∧ FrameEnd U o U' L RMrmMax0.cells RMrmMax0.slots) := by
  refine MetFree.of_bodySF (Jvm.Free.JP.mathPlain rfl (by decide +kernel)) hisR ?_
  intro p e s m args below meth c s₁ Bd hml0 hP hK
  obtain ⟨rfl, hZ, hh⟩ := hP
  have hx := Bd.exec
  have hby := Bd.bytes
  have hlk : meth.locks = false := BodyLoose.notSynchronized Bd
  have hret := Bd.returns
  have hml : c.maxLocals = 2 := hml0
  have hown : s.vm.findClass "java/lang/Math" = some m.cls := findClass_of_methodNamed Bd.named
  have hnm := (name_of_methodNamed Bd.named Bd.method).1
  have X0 : Stand p l e RMrmMax0 s m #[(.int (0 : Int32)), (.int (0 : Int32))] below meth c s₁ [] 0 0 := Stand.of_body Bd
  have e0 : s₁.heap = h0 := by rw [← hh, Bd.state]; rfl
  have N0 := Fr.nil Z.heap.size
  show OEnd p e below (GN s (QrmMax0 Z zc fm rt bl lg lv lk ci  h0) RMrmMax0.cells RMrmMax0.slots) _
  refine OEnd.of (fun tq kq => castTop (ef_rmMax0 m ) kq) ?_
  refine OEnd.of (fun tq kq => XS.iloadN X0.here hx rfl (hb hby d16_0) rfl kq) ?_
  show OEnd p e below _ (s₁.setTop (mkF m 1 #[.val (.int (0 : Int32)), .val (.int (0 : Int32))] [(.int (0 : Int32))]))
  refine OEnd.of (fun tq kq => XS.iloadN X0.here hx rfl (hb hby d16_1) rfl kq) ?_
  show OEnd p e below _ (s₁.setTop (mkF m 2 #[.val (.int (0 : Int32)), .val (.int (0 : Int32))] [(.int (0 : Int32)), (.int (0 : Int32))]))
  refine OEnd.of (fun tq kq => XS.icmpNo X0.here hx rfl (hb hby d16_2) rfl (flt (by decide : ¬ ((0 : Int32) < (0 : Int32)))).1 kq) ?_
  show OEnd p e below _ (s₁.setTop (mkF m 5 #[.val (.int (0 : Int32)), .val (.int (0 : Int32))] []))
  refine OEnd.of (fun tq kq => XS.iloadN X0.here hx rfl (hb hby d16_5) rfl kq) ?_
  show OEnd p e below _ (s₁.setTop (mkF m 6 #[.val (.int (0 : Int32)), .val (.int (0 : Int32))] [(.int (0 : Int32))]))
  refine OEnd.of (fun tq kq => XS.goto X0.here hx rfl (pc0 := 6) (pc' := 10) rfl (hb hby d16_6) (by decide) (by decide) kq) ?_
  show OEnd p e below _ (s₁.setTop (mkF m 10 #[.val (.int (0 : Int32)), .val (.int (0 : Int32))] [(.int (0 : Int32))]))
  exact OEnd.retI X0 hx hlk e0 hret (hb hby d16_10) ⟨rfl, N0, rfl⟩ (by decide) (by decide)
theorem d17_0 : decode jdk_29_method_69_code 0 = .ok (.iload_n 0, 1) := by decide +kernel
theorem d17_1 : decode jdk_29_method_69_code 1 = .ok (.iload_n 1, 1) := by decide +kernel
theorem d17_2 : decode jdk_29_method_69_code 2 = .ok (.if_icmp .gt 7, 3) := by decide +kernel
theorem d17_5 : decode jdk_29_method_69_code 5 = .ok (.iload_n 0, 1) := by decide +kernel
theorem d17_6 : decode jdk_29_method_69_code 6 = .ok (.goto 4, 3) := by decide +kernel
theorem d17_9 : decode jdk_29_method_69_code 9 = .ok (.iload_n 1, 1) := by decide +kernel
theorem d17_10 : decode jdk_29_method_69_code 10 = .ok (.ireturn, 1) := by decide +kernel
abbrev RMrmMin : Room := { frames := 0, cells := 0, slots := 0, locals := 0 }
theorem ef_rmMin (m : MethodId) (p1 : Int32) (p2 : Int32) : entryFrame m #[(.int p1), (.int p2)] 2 = mkF m 0 #[.val (.int p1), .val (.int p2)] [] := by first | (simp [entryFrame, mkF, argsToLocals, Value.category]; done) | rfl
def QrmMin (Z : State) (zc : Int32) (fm : Value) (rt : Addr) (bl : Addr) (lg : Addr) (lv : Addr) (lk : ClassId) (ci : Addr) (p1 : Int32) (p2 : Int32) (h0 : Heap) (v : Option Value) (h : Heap) (L : List Loc) : Prop := v = some (.int p2) ∧ Fr Z.heap.size L ∧ h = h0
set_option maxRecDepth 65536 in
set_option maxHeartbeats 40000000 in
theorem rmMin (l : Launch) (Z : State) (a0 : Array Value) (hw : ∀ d ∈ tables_1, d.before a0 Z = true) (zc : Int32) (fm : Value) (rt : Addr) (bl : Addr) (lg : Addr) (lv : Addr) (lk : ClassId) (ci : Addr) (S_CS : Sta Z Z.heap "java/lang/String" "COMPACT_STRINGS" "Z" (.int zc)) (hzc : ¬ zc = 0) (S_SF : Sta Z Z.heap "jdk/internal/util/Preconditions" "SIOOBE_FORMATTER" "Ljava/util/function/BiFunction;" fm) (h_fm : fm.isRef = true) (S_RT : Sta Z Z.heap "java/util/Locale" "ROOT" "Ljava/util/Locale;" (.ref rt)) (E_rt : Exa Z Z.heap rt "java/util/Locale") (F_bl : Fld Z Z.heap rt "java/util/Locale" "baseLocale" "Lsun/util/locale/BaseLocale;" (.ref bl)) (E_bl : Exa Z Z.heap bl "sun/util/locale/BaseLocale") (F_lg : Fld Z Z.heap bl "sun/util/locale/BaseLocale" "language" "Ljava/lang/String;" (.ref lg)) (E_lg : Exa Z Z.heap lg "java/lang/String") (F_lv : Fld Z Z.heap lg "java/lang/String" "value" "[B" (.ref lv)) (A_lv : Arv Z Z.heap lv lk .byte (0 : Int32) [] (.int (0 : Int32))) (S_CI : Sta Z Z.heap "java/lang/CharacterDataLatin1" "instance" "Ljava/lang/CharacterDataLatin1;" (.ref ci)) (E_ci : Exa Z Z.heap ci "java/lang/CharacterDataLatin1") (ws : List Jvm.Cond) (p1 : Int32) (p2 : Int32) (h0 : Heap) (O0 : Ext Z.heap h0) (hle : ¬ p1 < p2) :
    MetFree l (⟨"java/lang/Math", "min", "(II)I"⟩ : MethodName) (head1 (Jvm.Cond.code (⟨"java/lang/Math", "min", "(II)I"⟩ : MethodName) jdk_29_method_69_code 2 (some .int) :: ws) RMrmMin) (fun a U => a = #[(.int p1), (.int p2)] ∧ Z.Warmed39 U.vm ∧ U.heap = h0) (fun _ _ _ _ _ => True) (fun _ U o U' => ∃ v L, o = .returned v ∧ QrmMin Z zc fm rt bl lg lv lk ci p1 p2 h0 v U'.heap L ∧ FrameEnd U o U' L RMrmMin.cells RMrmMin.slots) := by
  refine MetFree.of_bodySF (Jvm.Free.JP.mathPlain rfl (by decide +kernel)) hisR ?_
  intro p e s m args below meth c s₁ Bd hml0 hP hK
  obtain ⟨rfl, hZ, hh⟩ := hP
  have hx := Bd.exec
  have hby := Bd.bytes
  have hlk : meth.locks = false := BodyLoose.notSynchronized Bd
  have hret := Bd.returns
  have hml : c.maxLocals = 2 := hml0
  have hown : s.vm.findClass "java/lang/Math" = some m.cls := findClass_of_methodNamed Bd.named
  have hnm := (name_of_methodNamed Bd.named Bd.method).1
  have X0 : Stand p l e RMrmMin s m #[(.int p1), (.int p2)] below meth c s₁ [] 0 0 := Stand.of_body Bd
  have e0 : s₁.heap = h0 := by rw [← hh, Bd.state]; rfl
  have N0 := Fr.nil Z.heap.size
  show OEnd p e below (GN s (QrmMin Z zc fm rt bl lg lv lk ci p1 p2 h0) RMrmMin.cells RMrmMin.slots) _
  refine OEnd.of (fun tq kq => castTop (ef_rmMin m p1 p2) kq) ?_
  refine OEnd.of (fun tq kq => XS.iloadN X0.here hx rfl (hb hby d17_0) rfl kq) ?_
  show OEnd p e below _ (s₁.setTop (mkF m 1 #[.val (.int p1), .val (.int p2)] [(.int p1)]))
  refine OEnd.of (fun tq kq => XS.iloadN X0.here hx rfl (hb hby d17_1) rfl kq) ?_
  show OEnd p e below _ (s₁.setTop (mkF m 2 #[.val (.int p1), .val (.int p2)] [(.int p2), (.int p1)]))
  by_cases hc12 : p2 < p1
  · refine OEnd.of (fun tq kq => XS.icmpYes X0.here hx rfl (pc0 := 2) (pc' := 9) rfl (hb hby d17_2) rfl (tlt hc12).2.2.1 (by decide) (by decide) kq) ?_
    show OEnd p e below _ (s₁.setTop (mkF m 9 #[.val (.int p1), .val (.int p2)] []))
    refine OEnd.of (fun tq kq => XS.iloadN X0.here hx rfl (hb hby d17_9) rfl kq) ?_
    show OEnd p e below _ (s₁.setTop (mkF m 10 #[.val (.int p1), .val (.int p2)] [(.int p2)]))
    exact OEnd.retI X0 hx hlk e0 hret (hb hby d17_10) ⟨rfl, N0, rfl⟩ (by decide) (by decide)
  · refine OEnd.of (fun tq kq => XS.icmpNo X0.here hx rfl (hb hby d17_2) rfl (flt hc12).2.2.1 kq) ?_
    show OEnd p e below _ (s₁.setTop (mkF m 5 #[.val (.int p1), .val (.int p2)] []))
    refine OEnd.of (fun tq kq => XS.iloadN X0.here hx rfl (hb hby d17_5) rfl kq) ?_
    show OEnd p e below _ (s₁.setTop (mkF m 6 #[.val (.int p1), .val (.int p2)] [(.int p1)]))
    refine OEnd.of (fun tq kq => XS.goto X0.here hx rfl (pc0 := 6) (pc' := 10) rfl (hb hby d17_6) (by decide) (by decide) kq) ?_
    show OEnd p e below _ (s₁.setTop (mkF m 10 #[.val (.int p1), .val (.int p2)] [(.int p1)]))
    exact OEnd.retI X0 hx hlk e0 hret (hb hby d17_10) ⟨(congrArg (fun z => some (Value.int z)) (own_minE hle hc12)), N0, rfl⟩ (by decide) (by decide)
theorem d18_0 : decode jdk_43_method_23_code 0 = .ok (.iload_n 1, 1) := by decide +kernel
theorem d18_1 : decode jdk_43_method_23_code 1 = .ok (.i2b, 1) := by decide +kernel
theorem d18_2 : decode jdk_43_method_23_code 2 = .ok (.istore 4, 2) := by decide +kernel
theorem d18_4 : decode jdk_43_method_23_code 4 = .ok (.iload_n 2, 1) := by decide +kernel
theorem d18_5 : decode jdk_43_method_23_code 5 = .ok (.istore 5, 2) := by decide +kernel
theorem d18_7 : decode jdk_43_method_23_code 7 = .ok (.iload 5, 2) := by decide +kernel
theorem d18_9 : decode jdk_43_method_23_code 9 = .ok (.iload_n 3, 1) := by decide +kernel
theorem d18_10 : decode jdk_43_method_23_code 10 = .ok (.if_icmp .ge 21, 3) := by decide +kernel
theorem d18_13 : decode jdk_43_method_23_code 13 = .ok (.aload_n 0, 1) := by decide +kernel
theorem d18_14 : decode jdk_43_method_23_code 14 = .ok (.iload 5, 2) := by decide +kernel
theorem d18_16 : decode jdk_43_method_23_code 16 = .ok (.baload, 1) := by decide +kernel
theorem d18_17 : decode jdk_43_method_23_code 17 = .ok (.iload 4, 2) := by decide +kernel
theorem d18_19 : decode jdk_43_method_23_code 19 = .ok (.if_icmp .ne 6, 3) := by decide +kernel
theorem d18_22 : decode jdk_43_method_23_code 22 = .ok (.iload 5, 2) := by decide +kernel
theorem d18_24 : decode jdk_43_method_23_code 24 = .ok (.ireturn, 1) := by decide +kernel
theorem d18_25 : decode jdk_43_method_23_code 25 = .ok (.iinc 5 1, 3) := by decide +kernel
theorem d18_28 : decode jdk_43_method_23_code 28 = .ok (.goto (-21), 3) := by decide +kernel
theorem d18_31 : decode jdk_43_method_23_code 31 = .ok (.iconst (-1), 1) := by decide +kernel
theorem d18_32 : decode jdk_43_method_23_code 32 = .ok (.ireturn, 1) := by decide +kernel
abbrev RMrmIxc : Room := { frames := 0, cells := 0, slots := 0, locals := 0 }
theorem ef_rmIxc (m : MethodId) (t : Addr) (cs : List Int32) (xx : Int32) : entryFrame m #[(.ref t), (.int xx), (.int (0 : Int32)), (.int (Int32.ofNat cs.length))] 6 = mkF m 0 #[.val (.ref t), .val (.int xx), .val (.int (0 : Int32)), .val (.int (Int32.ofNat cs.length)), .unset, .unset] [] := by first | (simp [entryFrame, mkF, argsToLocals, Value.category]; done) | rfl
def QrmIxc (Z : State) (zc : Int32) (fm : Value) (rt : Addr) (bl : Addr) (lg : Addr) (lv : Addr) (lk : ClassId) (ci : Addr) (t : Addr) (kb : ClassId) (cs : List Int32) (xx : Int32) (h0 : Heap) (v : Option Value) (h : Heap) (L : List Loc) : Prop := ∃ (r : Int32), v = some (.int r) ∧ Fr Z.heap.size L ∧ h = h0 ∧ (own_Ix cs xx r)
set_option maxRecDepth 65536 in
set_option maxHeartbeats 40000000 in
theorem rmIxc (l : Launch) (Z : State) (a0 : Array Value) (hw : ∀ d ∈ tables_1, d.before a0 Z = true) (zc : Int32) (fm : Value) (rt : Addr) (bl : Addr) (lg : Addr) (lv : Addr) (lk : ClassId) (ci : Addr) (S_CS : Sta Z Z.heap "java/lang/String" "COMPACT_STRINGS" "Z" (.int zc)) (hzc : ¬ zc = 0) (S_SF : Sta Z Z.heap "jdk/internal/util/Preconditions" "SIOOBE_FORMATTER" "Ljava/util/function/BiFunction;" fm) (h_fm : fm.isRef = true) (S_RT : Sta Z Z.heap "java/util/Locale" "ROOT" "Ljava/util/Locale;" (.ref rt)) (E_rt : Exa Z Z.heap rt "java/util/Locale") (F_bl : Fld Z Z.heap rt "java/util/Locale" "baseLocale" "Lsun/util/locale/BaseLocale;" (.ref bl)) (E_bl : Exa Z Z.heap bl "sun/util/locale/BaseLocale") (F_lg : Fld Z Z.heap bl "sun/util/locale/BaseLocale" "language" "Ljava/lang/String;" (.ref lg)) (E_lg : Exa Z Z.heap lg "java/lang/String") (F_lv : Fld Z Z.heap lg "java/lang/String" "value" "[B" (.ref lv)) (A_lv : Arv Z Z.heap lv lk .byte (0 : Int32) [] (.int (0 : Int32))) (S_CI : Sta Z Z.heap "java/lang/CharacterDataLatin1" "instance" "Ljava/lang/CharacterDataLatin1;" (.ref ci)) (E_ci : Exa Z Z.heap ci "java/lang/CharacterDataLatin1") (ws : List Jvm.Cond) (t : Addr) (kb : ClassId) (cs : List Int32) (xx : Int32) (h0 : Heap) (O0 : Ext Z.heap h0) (At : Arv Z h0 t kb .byte (Int32.ofNat cs.length) (BB cs) (.int (0 : Int32))) (hcs : ∀ c ∈ cs, ¬ c < 0 ∧ ¬ (255 : Int32) < c) (hl : cs.length ≤ 8) (hxx : ¬ xx < 0 ∧ ¬ (255 : Int32) < xx) :
    MetFree l (⟨"java/lang/StringLatin1", "indexOfChar", "([BIII)I"⟩ : MethodName) (head1 (Jvm.Cond.code (⟨"java/lang/StringLatin1", "indexOfChar", "([BIII)I"⟩ : MethodName) jdk_43_method_23_code 6 (some .int) :: ws) RMrmIxc) (fun a U => a = #[(.ref t), (.int xx), (.int (0 : Int32)), (.int (Int32.ofNat cs.length))] ∧ Z.Warmed39 U.vm ∧ U.heap = h0) (fun _ _ _ _ _ => True) (fun _ U o U' => ∃ v L, o = .returned v ∧ QrmIxc Z zc fm rt bl lg lv lk ci t kb cs xx h0 v U'.heap L ∧ FrameEnd U o U' L RMrmIxc.cells RMrmIxc.slots) := by
  refine MetFree.of_bodySF (plainFor_of_name pn_java_lang_StringLatin1) hisR ?_
  intro p e s m args below meth c s₁ Bd hml0 hP hK
  obtain ⟨rfl, hZ, hh⟩ := hP
  have hx := Bd.exec
  have hby := Bd.bytes
  have hlk : meth.locks = false := BodyLoose.notSynchronized Bd
  have hret := Bd.returns
  have hml : c.maxLocals = 6 := hml0
  have hown : s.vm.findClass "java/lang/StringLatin1" = some m.cls := findClass_of_methodNamed Bd.named
  have hnm := (name_of_methodNamed Bd.named Bd.method).1
  have X0 : Stand p l e RMrmIxc s m #[(.ref t), (.int xx), (.int (0 : Int32)), (.int (Int32.ofNat cs.length))] below meth c s₁ [] 0 0 := Stand.of_body Bd
  have e0 : s₁.heap = h0 := by rw [← hh, Bd.state]; rfl
  have N0 := Fr.nil Z.heap.size
  show OEnd p e below (GN s (QrmIxc Z zc fm rt bl lg lv lk ci t kb cs xx h0) RMrmIxc.cells RMrmIxc.slots) _
  refine OEnd.of (fun tq kq => castTop (ef_rmIxc m t cs xx) kq) ?_
  have hl4 : cs.length ≤ 4000 := Nat.le_trans hl (by decide)
  refine OEnd.of (fun tq kq => XS.iloadN X0.here hx rfl (hb hby d18_0) rfl kq) ?_
  show OEnd p e below _ (s₁.setTop (mkF m 1 #[.val (.ref t), .val (.int xx), .val (.int (0 : Int32)), .val (.int (Int32.ofNat cs.length)), .unset, .unset] [(.int xx)]))
  refine OEnd.of (fun tq kq => XS.i2b X0.here hx rfl (hb hby d18_1) rfl kq) ?_
  show OEnd p e below _ (s₁.setTop (mkF m 2 #[.val (.ref t), .val (.int xx), .val (.int (0 : Int32)), .val (.int (Int32.ofNat cs.length)), .unset, .unset] [(.int (xx.toInt8.toInt32))]))
  refine OEnd.of (fun tq kq => XS.istore X0.here hx rfl (hb hby d18_2) rfl (l' := #[.val (.ref t), .val (.int xx), .val (.int (0 : Int32)), .val (.int (Int32.ofNat cs.length)), .val (.int (xx.toInt8.toInt32)), .unset]) rfl kq) ?_
  show OEnd p e below _ (s₁.setTop (mkF m 4 #[.val (.ref t), .val (.int xx), .val (.int (0 : Int32)), .val (.int (Int32.ofNat cs.length)), .val (.int (xx.toInt8.toInt32)), .unset] []))
  refine OEnd.of (fun tq kq => XS.iloadN X0.here hx rfl (hb hby d18_4) rfl kq) ?_
  show OEnd p e below _ (s₁.setTop (mkF m 5 #[.val (.ref t), .val (.int xx), .val (.int (0 : Int32)), .val (.int (Int32.ofNat cs.length)), .val (.int (xx.toInt8.toInt32)), .unset] [(.int (0 : Int32))]))
  refine OEnd.of (fun tq kq => XS.istore X0.here hx rfl (hb hby d18_5) rfl (l' := #[.val (.ref t), .val (.int xx), .val (.int (0 : Int32)), .val (.int (Int32.ofNat cs.length)), .val (.int (xx.toInt8.toInt32)), .val (.int (0 : Int32))]) rfl kq) ?_
  show OEnd p e below _ (s₁.setTop (mkF m 7 #[.val (.ref t), .val (.int xx), .val (.int (0 : Int32)), .val (.int (Int32.ofNat cs.length)), .val (.int (xx.toInt8.toInt32)), .val (.int (0 : Int32))] []))
  have J13 : ∀ (mm13 : Nat) (T13 : State) (Lo13 : List Loc) (k : Nat), Stand p l e RMrmIxc s m #[(.ref t), (.int xx), (.int (0 : Int32)), (.int (Int32.ofNat cs.length))] below meth c T13 Lo13 0 0 → T13.heap = h0 → Fr Z.heap.size Lo13 → (k ≤ cs.length) → (∀ j, j < k → ¬ cs.getD j 0 = xx) → (cs.length - k = mm13) → OEnd p e below (GN s (QrmIxc Z zc fm rt bl lg lv lk ci t kb cs xx h0) RMrmIxc.cells RMrmIxc.slots) (T13.setTop (mkF m 7 #[.val (.ref t), .val (.int xx), .val (.int (0 : Int32)), .val (.int (Int32.ofNat cs.length)), .val (.int (xx.toInt8.toInt32)), .val (.int (Int32.ofNat k))] [])) := by
    intro mm13
    induction mm13 using Nat.strongRecOn with
    | ind mm13 ih13 =>
      rintro T13 Lo13 k X13 e13 N13 hk hn hm13
      show OEnd p e below _ (T13.setTop (mkF m 7 #[.val (.ref t), .val (.int xx), .val (.int (0 : Int32)), .val (.int (Int32.ofNat cs.length)), .val (.int (xx.toInt8.toInt32)), .val (.int (Int32.ofNat k))] []))
      refine OEnd.of (fun tq kq => XS.iload X13.here hx rfl (hb hby d18_7) rfl kq) ?_
      show OEnd p e below _ (T13.setTop (mkF m 9 #[.val (.ref t), .val (.int xx), .val (.int (0 : Int32)), .val (.int (Int32.ofNat cs.length)), .val (.int (xx.toInt8.toInt32)), .val (.int (Int32.ofNat k))] [(.int (Int32.ofNat k))]))
      refine OEnd.of (fun tq kq => XS.iloadN X13.here hx rfl (hb hby d18_9) rfl kq) ?_
      show OEnd p e below _ (T13.setTop (mkF m 10 #[.val (.ref t), .val (.int xx), .val (.int (0 : Int32)), .val (.int (Int32.ofNat cs.length)), .val (.int (xx.toInt8.toInt32)), .val (.int (Int32.ofNat k))] [(.int (Int32.ofNat cs.length)), (.int (Int32.ofNat k))]))
      by_cases hc14 : (Int32.ofNat k) < (Int32.ofNat cs.length)
      · refine OEnd.of (fun tq kq => XS.icmpNo X13.here hx rfl (hb hby d18_10) rfl (tlt hc14).2.1 kq) ?_
        show OEnd p e below _ (T13.setTop (mkF m 13 #[.val (.ref t), .val (.int xx), .val (.int (0 : Int32)), .val (.int (Int32.ofNat cs.length)), .val (.int (xx.toInt8.toInt32)), .val (.int (Int32.ofNat k))] []))
        have hk1 : k < cs.length := (own_ltN (Nat.le_trans hk hl4) hl4).mp hc14
        refine OEnd.of (fun tq kq => XS.aloadN X13.here hx rfl (hb hby d18_13) rfl rfl kq) ?_
        show OEnd p e below _ (T13.setTop (mkF m 14 #[.val (.ref t), .val (.int xx), .val (.int (0 : Int32)), .val (.int (Int32.ofNat cs.length)), .val (.int (xx.toInt8.toInt32)), .val (.int (Int32.ofNat k))] [(.ref t)]))
        refine OEnd.of (fun tq kq => XS.iload X13.here hx rfl (hb hby d18_14) rfl kq) ?_
        show OEnd p e below _ (T13.setTop (mkF m 16 #[.val (.ref t), .val (.int xx), .val (.int (0 : Int32)), .val (.int (Int32.ofNat cs.length)), .val (.int (xx.toInt8.toInt32)), .val (.int (Int32.ofNat k))] [(.int (Int32.ofNat k)), (.ref t)]))
        have Vc15 := At
        obtain ⟨cl15, Ar15, q15, S15, N15, H15, G15⟩ := Vc15
        have hin15 : ¬ ((Int32.ofNat k) < 0 ∨ cl15.slots.size ≤ ((Int32.ofNat k)).toNatClampNeg) := own_inB S15 hk1 hl4
        refine OEnd.of (X13.baloadBytes hx (j := (Int32.ofNat k)) (v := (.int ((cs.getD k 0).toInt8.toInt32))) (by rw [e13]; exact Ar15.1) (State.isArrayOf_alike hZ.alike Ar15.2.1) Ar15.2.2 hin15 (H15.at hin15 (own_getB hk1 hl4)) (g := (mkF m 16 #[.val (.ref t), .val (.int xx), .val (.int (0 : Int32)), .val (.int (Int32.ofNat cs.length)), .val (.int (xx.toInt8.toInt32)), .val (.int (Int32.ofNat k))] [(.int (Int32.ofNat k)), (.ref t)])) rfl rfl (hb hby d18_16)) ?_
        show OEnd p e below _ (T13.setTop (mkF m 17 #[.val (.ref t), .val (.int xx), .val (.int (0 : Int32)), .val (.int (Int32.ofNat cs.length)), .val (.int (xx.toInt8.toInt32)), .val (.int (Int32.ofNat k))] [(.int ((cs.getD k 0).toInt8.toInt32))]))
        refine OEnd.of (fun tq kq => XS.iload X13.here hx rfl (hb hby d18_17) rfl kq) ?_
        show OEnd p e below _ (T13.setTop (mkF m 19 #[.val (.ref t), .val (.int xx), .val (.int (0 : Int32)), .val (.int (Int32.ofNat cs.length)), .val (.int (xx.toInt8.toInt32)), .val (.int (Int32.ofNat k))] [(.int (xx.toInt8.toInt32)), (.int ((cs.getD k 0).toInt8.toInt32))]))
        by_cases hc16 : ((cs.getD k 0).toInt8.toInt32) = (xx.toInt8.toInt32)
        · refine OEnd.of (fun tq kq => XS.icmpNo X13.here hx rfl (hb hby d18_19) rfl (teq hc16).2 kq) ?_
          show OEnd p e below _ (T13.setTop (mkF m 22 #[.val (.ref t), .val (.int xx), .val (.int (0 : Int32)), .val (.int (Int32.ofNat cs.length)), .val (.int (xx.toInt8.toInt32)), .val (.int (Int32.ofNat k))] []))
          refine OEnd.of (fun tq kq => XS.iload X13.here hx rfl (hb hby d18_22) rfl kq) ?_
          show OEnd p e below _ (T13.setTop (mkF m 24 #[.val (.ref t), .val (.int xx), .val (.int (0 : Int32)), .val (.int (Int32.ofNat cs.length)), .val (.int (xx.toInt8.toInt32)), .val (.int (Int32.ofNat k))] [(.int (Int32.ofNat k))]))
          exact OEnd.retI X13 hx hlk e13 hret (hb hby d18_24) ⟨(Int32.ofNat k), rfl, N13, rfl, (Or.inl ⟨k, hk1, (own_b8 (own_rng hcs k) hxx).mp hc16, hn, rfl⟩)⟩ (by decide) (by decide)
        · refine OEnd.of (fun tq kq => XS.icmpYes X13.here hx rfl (pc0 := 19) (pc' := 25) rfl (hb hby d18_19) rfl (feq hc16).2 (by decide) (by decide) kq) ?_
          show OEnd p e below _ (T13.setTop (mkF m 25 #[.val (.ref t), .val (.int xx), .val (.int (0 : Int32)), .val (.int (Int32.ofNat cs.length)), .val (.int (xx.toInt8.toInt32)), .val (.int (Int32.ofNat k))] []))
          refine OEnd.of (fun tq kq => XS.iinc X13.here hx rfl (hb hby d18_25) rfl (l' := #[.val (.ref t), .val (.int xx), .val (.int (0 : Int32)), .val (.int (Int32.ofNat cs.length)), .val (.int (xx.toInt8.toInt32)), .val (.int ((Int32.ofNat k) + (1 : Int32)))]) rfl kq) ?_
          show OEnd p e below _ (T13.setTop (mkF m 28 #[.val (.ref t), .val (.int xx), .val (.int (0 : Int32)), .val (.int (Int32.ofNat cs.length)), .val (.int (xx.toInt8.toInt32)), .val (.int ((Int32.ofNat k) + (1 : Int32)))] []))
          refine OEnd.of (fun tq kq => XS.goto X13.here hx rfl (pc0 := 28) (pc' := 7) rfl (hb hby d18_28) (by decide) (by decide) kq) ?_
          show OEnd p e below _ (T13.setTop (mkF m 7 #[.val (.ref t), .val (.int xx), .val (.int (0 : Int32)), .val (.int (Int32.ofNat cs.length)), .val (.int (xx.toInt8.toInt32)), .val (.int ((Int32.ofNat k) + (1 : Int32)))] []))
          rw [show ((Int32.ofNat k) + (1 : Int32)) = (Int32.ofNat (k + 1)) from own_inc k]
          show OEnd p e below _ (T13.setTop (mkF m 7 #[.val (.ref t), .val (.int xx), .val (.int (0 : Int32)), .val (.int (Int32.ofNat cs.length)), .val (.int (xx.toInt8.toInt32)), .val (.int (Int32.ofNat (k + 1)))] []))
          exact ih13 _ (by omega) T13 _ (k + 1) X13 e13 N13 hk1 (fun j hj => (Nat.lt_succ_iff_lt_or_eq.mp hj).elim (hn j) (fun q => q ▸ fun z => hc16 ((own_b8 (own_rng hcs k) hxx).mpr z))) rfl
      · refine OEnd.of (fun tq kq => XS.icmpYes X13.here hx rfl (pc0 := 10) (pc' := 31) rfl (hb hby d18_10) rfl (flt hc14).2.1 (by decide) (by decide) kq) ?_
        show OEnd p e below _ (T13.setTop (mkF m 31 #[.val (.ref t), .val (.int xx), .val (.int (0 : Int32)), .val (.int (Int32.ofNat cs.length)), .val (.int (xx.toInt8.toInt32)), .val (.int (Int32.ofNat k))] []))
        have hk2 : ¬ k < cs.length := fun q => hc14 ((own_ltN (Nat.le_trans hk hl4) hl4).mpr q)
        refine OEnd.of (fun tq kq => XS.iconst X13.here hx rfl (hb hby d18_31) kq) ?_
        show OEnd p e below _ (T13.setTop (mkF m 32 #[.val (.ref t), .val (.int xx), .val (.int (0 : Int32)), .val (.int (Int32.ofNat cs.length)), .val (.int (xx.toInt8.toInt32)), .val (.int (Int32.ofNat k))] [(.int (-1 : Int32))]))
        exact OEnd.retI X13 hx hlk e13 hret (hb hby d18_32) ⟨(-1 : Int32), rfl, N13, rfl, (Or.inr ⟨fun j hj => hn j (by omega), rfl⟩)⟩ (by decide) (by decide)
  exact J13 _ s₁ _ 0 X0 e0 N0 (Nat.zero_le _) (fun j hj => absurd hj (Nat.not_lt_zero j)) rfl
theorem pd_28I29Z : parseMethodDescriptor "(I)Z" = some ⟨[.int], some .boolean⟩ := by decide +kernel
theorem pd_28II29I : parseMethodDescriptor "(II)I" = some ⟨[.int, .int], some .int⟩ := by decide +kernel
theorem pd_285bBIII29I : parseMethodDescriptor "([BIII)I" = some ⟨[(.array .byte), .int, .int, .int], some .int⟩ := by decide +kernel
theorem d14_0 : decode jdk_43_method_22_code 0 = .ok (.iload_n 1, 1) := by decide +kernel
theorem d14_1 : decode jdk_43_method_22_code 1 = .ok (.invokestatic 88, 3) := by decide +kernel
theorem d14_4 : decode jdk_43_method_22_code 4 = .ok (.ifCond .ne 5, 3) := by decide +kernel
theorem d14_9 : decode jdk_43_method_22_code 9 = .ok (.iload_n 2, 1) := by decide +kernel
theorem d14_10 : decode jdk_43_method_22_code 10 = .ok (.iconst 0, 1) := by decide +kernel
theorem d14_11 : decode jdk_43_method_22_code 11 = .ok (.invokestatic 92, 3) := by decide +kernel
theorem d14_14 : decode jdk_43_method_22_code 14 = .ok (.istore_n 2, 1) := by decide +kernel
theorem d14_15 : decode jdk_43_method_22_code 15 = .ok (.iload_n 3, 1) := by decide +kernel
theorem d14_16 : decode jdk_43_method_22_code 16 = .ok (.aload_n 0, 1) := by decide +kernel
theorem d14_17 : decode jdk_43_method_22_code 17 = .ok (.arraylength, 1) := by decide +kernel
theorem d14_18 : decode jdk_43_method_22_code 18 = .ok (.invokestatic 38, 3) := by decide +kernel
theorem d14_21 : decode jdk_43_method_22_code 21 = .ok (.istore_n 3, 1) := by decide +kernel
theorem d14_22 : decode jdk_43_method_22_code 22 = .ok (.iload_n 2, 1) := by decide +kernel
theorem d14_23 : decode jdk_43_method_22_code 23 = .ok (.iload_n 3, 1) := by decide +kernel
theorem d14_24 : decode jdk_43_method_22_code 24 = .ok (.if_icmp .lt 5, 3) := by decide +kernel
theorem d14_27 : decode jdk_43_method_22_code 27 = .ok (.iconst (-1), 1) := by decide +kernel
theorem d14_28 : decode jdk_43_method_22_code 28 = .ok (.ireturn, 1) := by decide +kernel
theorem d14_29 : decode jdk_43_method_22_code 29 = .ok (.aload_n 0, 1) := by decide +kernel
theorem d14_30 : decode jdk_43_method_22_code 30 = .ok (.iload_n 1, 1) := by decide +kernel
theorem d14_31 : decode jdk_43_method_22_code 31 = .ok (.iload_n 2, 1) := by decide +kernel
theorem d14_32 : decode jdk_43_method_22_code 32 = .ok (.iload_n 3, 1) := by decide +kernel
theorem d14_33 : decode jdk_43_method_22_code 33 = .ok (.invokestatic 95, 3) := by decide +kernel
theorem d14_36 : decode jdk_43_method_22_code 36 = .ok (.ireturn, 1) := by decide +kernel
abbrev RMrmIxb : Room := { frames := 1, cells := 0, slots := 0, locals := 17 }
theorem ef_rmIxb (m : MethodId) (t : Addr) (cs : List Int32) (xx : Int32) : entryFrame m #[(.ref t), (.int xx), (.int (0 : Int32)), (.int (Int32.ofNat cs.length))] 4 = mkF m 0 #[.val (.ref t), .val (.int xx), .val (.int (0 : Int32)), .val (.int (Int32.ofNat cs.length))] [] := by first | (simp [entryFrame, mkF, argsToLocals, Value.category]; done) | rfl
def QrmIxb (Z : State) (zc : Int32) (fm : Value) (rt : Addr) (bl : Addr) (lg : Addr) (lv : Addr) (lk : ClassId) (ci : Addr) (t : Addr) (kb : ClassId) (cs : List Int32) (xx : Int32) (h0 : Heap) (v : Option Value) (h : Heap) (L : List Loc) : Prop := ∃ (r : Int32), v = some (.int r) ∧ Fr Z.heap.size L ∧ h = h0 ∧ (own_Ix cs xx r)
set_option maxRecDepth 65536 in
set_option maxHeartbeats 40000000 in
theorem rmIxb (l : Launch) (Z : State) (a0 : Array Value) (hw : ∀ d ∈ tables_1, d.before a0 Z = true) (zc : Int32) (fm : Value) (rt : Addr) (bl : Addr) (lg : Addr) (lv : Addr) (lk : ClassId) (ci : Addr) (S_CS : Sta Z Z.heap "java/lang/String" "COMPACT_STRINGS" "Z" (.int zc)) (hzc : ¬ zc = 0) (S_SF : Sta Z Z.heap "jdk/internal/util/Preconditions" "SIOOBE_FORMATTER" "Ljava/util/function/BiFunction;" fm) (h_fm : fm.isRef = true) (S_RT : Sta Z Z.heap "java/util/Locale" "ROOT" "Ljava/util/Locale;" (.ref rt)) (E_rt : Exa Z Z.heap rt "java/util/Locale") (F_bl : Fld Z Z.heap rt "java/util/Locale" "baseLocale" "Lsun/util/locale/BaseLocale;" (.ref bl)) (E_bl : Exa Z Z.heap bl "sun/util/locale/BaseLocale") (F_lg : Fld Z Z.heap bl "sun/util/locale/BaseLocale" "language" "Ljava/lang/String;" (.ref lg)) (E_lg : Exa Z Z.heap lg "java/lang/String") (F_lv : Fld Z Z.heap lg "java/lang/String" "value" "[B" (.ref lv)) (A_lv : Arv Z Z.heap lv lk .byte (0 : Int32) [] (.int (0 : Int32))) (S_CI : Sta Z Z.heap "java/lang/CharacterDataLatin1" "instance" "Ljava/lang/CharacterDataLatin1;" (.ref ci)) (E_ci : Exa Z Z.heap ci "java/lang/CharacterDataLatin1") (ws : List Jvm.Cond) (t : Addr) (kb : ClassId) (cs : List Int32) (xx : Int32) (h0 : Heap) (O0 : Ext Z.heap h0) (At : Arv Z h0 t kb .byte (Int32.ofNat cs.length) (BB cs) (.int (0 : Int32))) (hcs : ∀ c ∈ cs, ¬ c < 0 ∧ ¬ (255 : Int32) < c) (hl : cs.length ≤ 8) (hxx : ¬ xx < 0 ∧ ¬ (255 : Int32) < xx) :
    MetFree l (⟨"java/lang/StringLatin1", "indexOf", "([BIII)I"⟩ : MethodName) (head1 (Jvm.Cond.code (⟨"java/lang/StringLatin1", "indexOf", "([BIII)I"⟩ : MethodName) jdk_43_method_22_code 4 (some .int) :: ws) RMrmIxb) (fun a U => a = #[(.ref t), (.int xx), (.int (0 : Int32)), (.int (Int32.ofNat cs.length))] ∧ Z.Warmed39 U.vm ∧ U.heap = h0) (fun _ _ _ _ _ => True) (fun _ U o U' => ∃ v L, o = .returned v ∧ QrmIxb Z zc fm rt bl lg lv lk ci t kb cs xx h0 v U'.heap L ∧ FrameEnd U o U' L RMrmIxb.cells RMrmIxb.slots) := by
  refine MetFree.of_bodySF (plainFor_of_name pn_java_lang_StringLatin1) hisR ?_
  intro p e s m args below meth c s₁ Bd hml0 hP hK
  obtain ⟨rfl, hZ, hh⟩ := hP
  have hx := Bd.exec
  have hby := Bd.bytes
  have hlk : meth.locks = false := BodyLoose.notSynchronized Bd
  have hret := Bd.returns
  have hml : c.maxLocals = 4 := hml0
  have hown : s.vm.findClass "java/lang/StringLatin1" = some m.cls := findClass_of_methodNamed Bd.named
  have hnm := (name_of_methodNamed Bd.named Bd.method).1
  have X0 : Stand p l e RMrmIxb s m #[(.ref t), (.int xx), (.int (0 : Int32)), (.int (Int32.ofNat cs.length))] below meth c s₁ [] 0 0 := Stand.of_body Bd
  have e0 : s₁.heap = h0 := by rw [← hh, Bd.state]; rfl
  have N0 := Fr.nil Z.heap.size
  show OEnd p e below (GN s (QrmIxb Z zc fm rt bl lg lv lk ci t kb cs xx h0) RMrmIxb.cells RMrmIxb.slots) _
  refine OEnd.of (fun tq kq => castTop (ef_rmIxb m t cs xx) kq) ?_
  have hl4 : cs.length ≤ 4000 := Nat.le_trans hl (by decide)
  refine OEnd.of (fun tq kq => XS.iloadN X0.here hx rfl (hb hby d14_0) rfl kq) ?_
  show OEnd p e below _ (s₁.setTop (mkF m 1 #[.val (.ref t), .val (.int xx), .val (.int (0 : Int32)), .val (.int (Int32.ofNat cs.length))] [(.int xx)]))
  obtain ⟨_, _, ⟨T17, L17, k17, n17⟩, -, X17, ⟨Lc17, hQ17, l17, y17, z17⟩, st17⟩ := Jvm.LawKit.callS X0 hx (y := (⟨"java/lang/StringLatin1", "canEncode", "(I)Z"⟩ : MethodName)) hown (mvT hZ (hw _ (List.mem_of_getElem? (i := 67) rfl))) (mvT hZ (hw _ (List.mem_of_getElem? (i := 68) rfl))) (mvT hZ (hw _ (List.mem_of_getElem? (i := 65) rfl))) (mvT hZ (hw _ (List.mem_of_getElem? (i := 69) rfl))) (by decide) (backOf (W := 0) (rmCanI l Z a0 hw zc fm rt bl lg lv lk ci S_CS hzc S_SF h_fm S_RT E_rt F_bl E_bl F_lg E_lg F_lv A_lv S_CI E_ci [] xx h0 O0 hxx) hZ (hw _ (List.mem_of_getElem? (i := 69) rfl)) (hw _ (List.mem_of_getElem? (i := 65) rfl)) (by decide) (by decide)) (g := (mkF m 1 #[.val (.ref t), .val (.int xx), .val (.int (0 : Int32)), .val (.int (Int32.ofNat cs.length))] [(.int xx)])) rfl (by rw [hml]; rfl) (argsL := [(.int xx)]) (rest := []) (lenOf pd_28I29Z rfl) rfl (by show 2 * 0 + _ ≤ _; exact Nat.le_of_eq rfl) (hb hby d14_1) (fun _ _ => ⟨rfl, e0, (by decide : 0 + 0 ≤ _), (by decide : 0 + 0 ≤ _)⟩)
  dsimp only [Pt.U, Pt.locs, Pt.cells, Pt.slots] at X17 l17 y17 z17 st17 hQ17
  subst l17 y17 z17
  obtain ⟨rfl, Nq17, e17⟩ := hQ17
  have N18 := Fr.app N0 Nq17
  refine OEnd.of st17 ?_
  show OEnd p e below _ (T17.setTop (mkF m 4 #[.val (.ref t), .val (.int xx), .val (.int (0 : Int32)), .val (.int (Int32.ofNat cs.length))] [(.int (1 : Int32))]))
  refine OEnd.of (fun tq kq => XS.ifYes X17.here hx rfl (pc0 := 4) (pc' := 9) rfl (hb hby d14_4) rfl ((if0 _ _).trans (feq (by decide : ¬ ((1 : Int32) = (0 : Int32)))).2) (by decide) (by decide) kq) ?_
  show OEnd p e below _ (T17.setTop (mkF m 9 #[.val (.ref t), .val (.int xx), .val (.int (0 : Int32)), .val (.int (Int32.ofNat cs.length))] []))
  refine OEnd.of (fun tq kq => XS.iloadN X17.here hx rfl (hb hby d14_9) rfl kq) ?_
  show OEnd p e below _ (T17.setTop (mkF m 10 #[.val (.ref t), .val (.int xx), .val (.int (0 : Int32)), .val (.int (Int32.ofNat cs.length))] [(.int (0 : Int32))]))
  refine OEnd.of (fun tq kq => XS.iconst X17.here hx rfl (hb hby d14_10) kq) ?_
  show OEnd p e below _ (T17.setTop (mkF m 11 #[.val (.ref t), .val (.int xx), .val (.int (0 : Int32)), .val (.int (Int32.ofNat cs.length))] [(.int (0 : Int32)), (.int (0 : Int32))]))
  obtain ⟨_, _, ⟨T19, L19, k19, n19⟩, -, X19, ⟨Lc19, hQ19, l19, y19, z19⟩, st19⟩ := Jvm.LawKit.callS X17 hx (y := (⟨"java/lang/Math", "max", "(II)I"⟩ : MethodName)) hown (mvT hZ (hw _ (List.mem_of_getElem? (i := 70) rfl))) (mvT hZ (hw _ (List.mem_of_getElem? (i := 71) rfl))) (mvT hZ (hw _ (List.mem_of_getElem? (i := 72) rfl))) (mvT hZ (hw _ (List.mem_of_getElem? (i := 73) rfl))) (by decide) (backOf (W := 0) (rmMax0 l Z a0 hw zc fm rt bl lg lv lk ci S_CS hzc S_SF h_fm S_RT E_rt F_bl E_bl F_lg E_lg F_lv A_lv S_CI E_ci []  h0 O0 ) hZ (hw _ (List.mem_of_getElem? (i := 73) rfl)) (hw _ (List.mem_of_getElem? (i := 72) rfl)) (by decide) (by decide)) (g := (mkF m 11 #[.val (.ref t), .val (.int xx), .val (.int (0 : Int32)), .val (.int (Int32.ofNat cs.length))] [(.int (0 : Int32)), (.int (0 : Int32))])) rfl (by rw [hml]; rfl) (argsL := [(.int (0 : Int32)), (.int (0 : Int32))]) (rest := []) (lenOf pd_28II29I rfl) rfl (by show 2 * 0 + _ ≤ _; exact Nat.le_of_eq rfl) (hb hby d14_11) (fun _ _ => ⟨rfl, e17, (by decide : 0 + 0 ≤ _), (by decide : 0 + 0 ≤ _)⟩)
  dsimp only [Pt.U, Pt.locs, Pt.cells, Pt.slots] at X19 l19 y19 z19 st19 hQ19
  subst l19 y19 z19
  obtain ⟨rfl, Nq19, e19⟩ := hQ19
  have N20 := Fr.app N18 Nq19
  refine OEnd.of st19 ?_
  show OEnd p e below _ (T19.setTop (mkF m 14 #[.val (.ref t), .val (.int xx), .val (.int (0 : Int32)), .val (.int (Int32.ofNat cs.length))] [(.int (0 : Int32))]))
  refine OEnd.of (fun tq kq => XS.istoreN X19.here hx rfl (hb hby d14_14) rfl (l' := #[.val (.ref t), .val (.int xx), .val (.int (0 : Int32)), .val (.int (Int32.ofNat cs.length))]) rfl kq) ?_
  show OEnd p e below _ (T19.setTop (mkF m 15 #[.val (.ref t), .val (.int xx), .val (.int (0 : Int32)), .val (.int (Int32.ofNat cs.length))] []))
  refine OEnd.of (fun tq kq => XS.iloadN X19.here hx rfl (hb hby d14_15) rfl kq) ?_
  show OEnd p e below _ (T19.setTop (mkF m 16 #[.val (.ref t), .val (.int xx), .val (.int (0 : Int32)), .val (.int (Int32.ofNat cs.length))] [(.int (Int32.ofNat cs.length))]))
  refine OEnd.of (fun tq kq => XS.aloadN X19.here hx rfl (hb hby d14_16) rfl rfl kq) ?_
  show OEnd p e below _ (T19.setTop (mkF m 17 #[.val (.ref t), .val (.int xx), .val (.int (0 : Int32)), .val (.int (Int32.ofNat cs.length))] [(.ref t), (.int (Int32.ofNat cs.length))]))
  have Vc21 := At
  obtain ⟨cl21, Ar21, -, S21, N21, -, -⟩ := Vc21
  refine OEnd.of (X19.arraylength hx (by rw [e19]; exact Ar21.1) (State.isArrayOf_alike hZ.alike Ar21.2.1) (g := (mkF m 17 #[.val (.ref t), .val (.int xx), .val (.int (0 : Int32)), .val (.int (Int32.ofNat cs.length))] [(.ref t), (.int (Int32.ofNat cs.length))])) rfl rfl (hb hby d14_17)) ?_
  rw [len_of S21 N21]
  show OEnd p e below _ (T19.setTop (mkF m 18 #[.val (.ref t), .val (.int xx), .val (.int (0 : Int32)), .val (.int (Int32.ofNat cs.length))] [(.int (Int32.ofNat cs.length)), (.int (Int32.ofNat cs.length))]))
  obtain ⟨_, _, ⟨T22, L22, k22, n22⟩, -, X22, ⟨Lc22, hQ22, l22, y22, z22⟩, st22⟩ := Jvm.LawKit.callS X19 hx (y := (⟨"java/lang/Math", "min", "(II)I"⟩ : MethodName)) hown (mvT hZ (hw _ (List.mem_of_getElem? (i := 74) rfl))) (mvT hZ (hw _ (List.mem_of_getElem? (i := 75) rfl))) (mvT hZ (hw _ (List.mem_of_getElem? (i := 72) rfl))) (mvT hZ (hw _ (List.mem_of_getElem? (i := 76) rfl))) (by decide) (backOf (W := 0) (rmMin l Z a0 hw zc fm rt bl lg lv lk ci S_CS hzc S_SF h_fm S_RT E_rt F_bl E_bl F_lg E_lg F_lv A_lv S_CI E_ci [] (Int32.ofNat cs.length) (Int32.ofNat cs.length) h0 O0 (fun q => Int32.lt_irrefl q)) hZ (hw _ (List.mem_of_getElem? (i := 76) rfl)) (hw _ (List.mem_of_getElem? (i := 72) rfl)) (by decide) (by decide)) (g := (mkF m 18 #[.val (.ref t), .val (.int xx), .val (.int (0 : Int32)), .val (.int (Int32.ofNat cs.length))] [(.int (Int32.ofNat cs.length)), (.int (Int32.ofNat cs.length))])) rfl (by rw [hml]; rfl) (argsL := [(.int (Int32.ofNat cs.length)), (.int (Int32.ofNat cs.length))]) (rest := []) (lenOf pd_28II29I rfl) rfl (by show 2 * 0 + _ ≤ _; exact Nat.le_of_eq rfl) (hb hby d14_18) (fun _ _ => ⟨rfl, e19, (by decide : 0 + 0 ≤ _), (by decide : 0 + 0 ≤ _)⟩)
  dsimp only [Pt.U, Pt.locs, Pt.cells, Pt.slots] at X22 l22 y22 z22 st22 hQ22
  subst l22 y22 z22
  obtain ⟨rfl, Nq22, e22⟩ := hQ22
  have N23 := Fr.app N20 Nq22
  refine OEnd.of st22 ?_
  show OEnd p e below _ (T22.setTop (mkF m 21 #[.val (.ref t), .val (.int xx), .val (.int (0 : Int32)), .val (.int (Int32.ofNat cs.length))] [(.int (Int32.ofNat cs.length))]))
  refine OEnd.of (fun tq kq => XS.istoreN X22.here hx rfl (hb hby d14_21) rfl (l' := #[.val (.ref t), .val (.int xx), .val (.int (0 : Int32)), .val (.int (Int32.ofNat cs.length))]) rfl kq) ?_
  show OEnd p e below _ (T22.setTop (mkF m 22 #[.val (.ref t), .val (.int xx), .val (.int (0 : Int32)), .val (.int (Int32.ofNat cs.length))] []))
  refine OEnd.of (fun tq kq => XS.iloadN X22.here hx rfl (hb hby d14_22) rfl kq) ?_
  show OEnd p e below _ (T22.setTop (mkF m 23 #[.val (.ref t), .val (.int xx), .val (.int (0 : Int32)), .val (.int (Int32.ofNat cs.length))] [(.int (0 : Int32))]))
  refine OEnd.of (fun tq kq => XS.iloadN X22.here hx rfl (hb hby d14_23) rfl kq) ?_
  show OEnd p e below _ (T22.setTop (mkF m 24 #[.val (.ref t), .val (.int xx), .val (.int (0 : Int32)), .val (.int (Int32.ofNat cs.length))] [(.int (Int32.ofNat cs.length)), (.int (0 : Int32))]))
  by_cases hc24 : (0 : Int32) < (Int32.ofNat cs.length)
  · refine OEnd.of (fun tq kq => XS.icmpYes X22.here hx rfl (pc0 := 24) (pc' := 29) rfl (hb hby d14_24) rfl (tlt hc24).1 (by decide) (by decide) kq) ?_
    show OEnd p e below _ (T22.setTop (mkF m 29 #[.val (.ref t), .val (.int xx), .val (.int (0 : Int32)), .val (.int (Int32.ofNat cs.length))] []))
    refine OEnd.of (fun tq kq => XS.aloadN X22.here hx rfl (hb hby d14_29) rfl rfl kq) ?_
    show OEnd p e below _ (T22.setTop (mkF m 30 #[.val (.ref t), .val (.int xx), .val (.int (0 : Int32)), .val (.int (Int32.ofNat cs.length))] [(.ref t)]))
    refine OEnd.of (fun tq kq => XS.iloadN X22.here hx rfl (hb hby d14_30) rfl kq) ?_
    show OEnd p e below _ (T22.setTop (mkF m 31 #[.val (.ref t), .val (.int xx), .val (.int (0 : Int32)), .val (.int (Int32.ofNat cs.length))] [(.int xx), (.ref t)]))
    refine OEnd.of (fun tq kq => XS.iloadN X22.here hx rfl (hb hby d14_31) rfl kq) ?_
    show OEnd p e below _ (T22.setTop (mkF m 32 #[.val (.ref t), .val (.int xx), .val (.int (0 : Int32)), .val (.int (Int32.ofNat cs.length))] [(.int (0 : Int32)), (.int xx), (.ref t)]))
    refine OEnd.of (fun tq kq => XS.iloadN X22.here hx rfl (hb hby d14_32) rfl kq) ?_
    show OEnd p e below _ (T22.setTop (mkF m 33 #[.val (.ref t), .val (.int xx), .val (.int (0 : Int32)), .val (.int (Int32.ofNat cs.length))] [(.int (Int32.ofNat cs.length)), (.int (0 : Int32)), (.int xx), (.ref t)]))
    obtain ⟨_, _, ⟨T25, L25, k25, n25⟩, -, X25, ⟨Lc25, hQ25, l25, y25, z25⟩, st25⟩ := Jvm.LawKit.callS X22 hx (y := (⟨"java/lang/StringLatin1", "indexOfChar", "([BIII)I"⟩ : MethodName)) hown (mvT hZ (hw _ (List.mem_of_getElem? (i := 77) rfl))) (mvT hZ (hw _ (List.mem_of_getElem? (i := 78) rfl))) (mvT hZ (hw _ (List.mem_of_getElem? (i := 65) rfl))) (mvT hZ (hw _ (List.mem_of_getElem? (i := 79) rfl))) (by decide) (backOf (W := 0) (rmIxc l Z a0 hw zc fm rt bl lg lv lk ci S_CS hzc S_SF h_fm S_RT E_rt F_bl E_bl F_lg E_lg F_lv A_lv S_CI E_ci [] t kb cs xx h0 O0 At hcs hl hxx) hZ (hw _ (List.mem_of_getElem? (i := 79) rfl)) (hw _ (List.mem_of_getElem? (i := 65) rfl)) (by decide) (by decide)) (g := (mkF m 33 #[.val (.ref t), .val (.int xx), .val (.int (0 : Int32)), .val (.int (Int32.ofNat cs.length))] [(.int (Int32.ofNat cs.length)), (.int (0 : Int32)), (.int xx), (.ref t)])) rfl (by rw [hml]; rfl) (argsL := [(.ref t), (.int xx), (.int (0 : Int32)), (.int (Int32.ofNat cs.length))]) (rest := []) (lenOf pd_285bBIII29I rfl) rfl (by show 2 * 0 + _ ≤ _; exact Nat.le_of_eq rfl) (hb hby d14_33) (fun _ _ => ⟨rfl, e22, (by decide : 0 + 0 ≤ _), (by decide : 0 + 0 ≤ _)⟩)
    dsimp only [Pt.U, Pt.locs, Pt.cells, Pt.slots] at X25 l25 y25 z25 st25 hQ25
    subst l25 y25 z25
    obtain ⟨r_26, rfl, Nq25, e25, hr_27⟩ := hQ25
    have N28 := Fr.app N23 Nq25
    refine OEnd.of st25 ?_
    show OEnd p e below _ (T25.setTop (mkF m 36 #[.val (.ref t), .val (.int xx), .val (.int (0 : Int32)), .val (.int (Int32.ofNat cs.length))] [(.int r_26)]))
    exact OEnd.retI X25 hx hlk e25 hret (hb hby d14_36) ⟨r_26, rfl, N28, rfl, hr_27⟩ (by decide) (by decide)
  · refine OEnd.of (fun tq kq => XS.icmpNo X22.here hx rfl (hb hby d14_24) rfl (flt hc24).1 kq) ?_
    show OEnd p e below _ (T22.setTop (mkF m 27 #[.val (.ref t), .val (.int xx), .val (.int (0 : Int32)), .val (.int (Int32.ofNat cs.length))] []))
    refine OEnd.of (fun tq kq => XS.iconst X22.here hx rfl (hb hby d14_27) kq) ?_
    show OEnd p e below _ (T22.setTop (mkF m 28 #[.val (.ref t), .val (.int xx), .val (.int (0 : Int32)), .val (.int (Int32.ofNat cs.length))] [(.int (-1 : Int32))]))
    exact OEnd.retI X22 hx hlk e22 hret (hb hby d14_28) ⟨(-1 : Int32), rfl, N23, rfl, (Or.inr ⟨fun j hj => absurd ((own_ltN (a := 0) (Nat.zero_le _) hl4).mpr (Nat.lt_of_le_of_lt (Nat.zero_le j) hj)) hc24, rfl⟩)⟩ (by decide) (by decide)
theorem pd_2829Z : parseMethodDescriptor "()Z" = some ⟨[], some .boolean⟩ := by decide +kernel
theorem pd_2829I : parseMethodDescriptor "()I" = some ⟨[], some .int⟩ := by decide +kernel
theorem d10_0 : decode jdk_42_method_80_code 0 = .ok (.aload_n 0, 1) := by decide +kernel
theorem d10_1 : decode jdk_42_method_80_code 1 = .ok (.invokevirtual 492, 3) := by decide +kernel
theorem d10_4 : decode jdk_42_method_80_code 4 = .ok (.ifCond .eq 19, 3) := by decide +kernel
theorem d10_7 : decode jdk_42_method_80_code 7 = .ok (.aload_n 0, 1) := by decide +kernel
theorem d10_8 : decode jdk_42_method_80_code 8 = .ok (.getfield 9, 3) := by decide +kernel
theorem d10_11 : decode jdk_42_method_80_code 11 = .ok (.iload_n 1, 1) := by decide +kernel
theorem d10_12 : decode jdk_42_method_80_code 12 = .ok (.iload_n 2, 1) := by decide +kernel
theorem d10_13 : decode jdk_42_method_80_code 13 = .ok (.aload_n 0, 1) := by decide +kernel
theorem d10_14 : decode jdk_42_method_80_code 14 = .ok (.invokevirtual 505, 3) := by decide +kernel
theorem d10_17 : decode jdk_42_method_80_code 17 = .ok (.invokestatic 637, 3) := by decide +kernel
theorem d10_20 : decode jdk_42_method_80_code 20 = .ok (.goto 16, 3) := by decide +kernel
theorem d10_36 : decode jdk_42_method_80_code 36 = .ok (.ireturn, 1) := by decide +kernel
abbrev RMrmIx2 : Room := { frames := 2, cells := 0, slots := 0, locals := 32 }
theorem ef_rmIx2 (m : MethodId) (a1 : Addr) (xx : Int32) : entryFrame m #[(.ref a1), (.int xx), (.int (0 : Int32))] 3 = mkF m 0 #[.val (.ref a1), .val (.int xx), .val (.int (0 : Int32))] [] := by first | (simp [entryFrame, mkF, argsToLocals, Value.category]; done) | rfl
def QrmIx2 (Z : State) (zc : Int32) (fm : Value) (rt : Addr) (bl : Addr) (lg : Addr) (lv : Addr) (lk : ClassId) (ci : Addr) (a1 : Addr) (cs : List Int32) (xx : Int32) (h0 : Heap) (v : Option Value) (h : Heap) (L : List Loc) : Prop := ∃ (r : Int32), v = some (.int r) ∧ Fr Z.heap.size L ∧ h = h0 ∧ (own_Ix cs xx r)
set_option maxRecDepth 65536 in
set_option maxHeartbeats 40000000 in
theorem rmIx2 (l : Launch) (Z : State) (a0 : Array Value) (hw : ∀ d ∈ tables_1, d.before a0 Z = true) (zc : Int32) (fm : Value) (rt : Addr) (bl : Addr) (lg : Addr) (lv : Addr) (lk : ClassId) (ci : Addr) (S_CS : Sta Z Z.heap "java/lang/String" "COMPACT_STRINGS" "Z" (.int zc)) (hzc : ¬ zc = 0) (S_SF : Sta Z Z.heap "jdk/internal/util/Preconditions" "SIOOBE_FORMATTER" "Ljava/util/function/BiFunction;" fm) (h_fm : fm.isRef = true) (S_RT : Sta Z Z.heap "java/util/Locale" "ROOT" "Ljava/util/Locale;" (.ref rt)) (E_rt : Exa Z Z.heap rt "java/util/Locale") (F_bl : Fld Z Z.heap rt "java/util/Locale" "baseLocale" "Lsun/util/locale/BaseLocale;" (.ref bl)) (E_bl : Exa Z Z.heap bl "sun/util/locale/BaseLocale") (F_lg : Fld Z Z.heap bl "sun/util/locale/BaseLocale" "language" "Ljava/lang/String;" (.ref lg)) (E_lg : Exa Z Z.heap lg "java/lang/String") (F_lv : Fld Z Z.heap lg "java/lang/String" "value" "[B" (.ref lv)) (A_lv : Arv Z Z.heap lv lk .byte (0 : Int32) [] (.int (0 : Int32))) (S_CI : Sta Z Z.heap "java/lang/CharacterDataLatin1" "instance" "Ljava/lang/CharacterDataLatin1;" (.ref ci)) (E_ci : Exa Z Z.heap ci "java/lang/CharacterDataLatin1") (ws : List Jvm.Cond) (a1 : Addr) (cs : List Int32) (xx : Int32) (h0 : Heap) (O0 : Ext Z.heap h0) (Ss : IsStr Z h0 a1 cs) (hl : cs.length ≤ 8) (hxx : ¬ xx < 0 ∧ ¬ (255 : Int32) < xx) :
    MetFree l (⟨"java/lang/String", "indexOf", "(II)I"⟩ : MethodName) (head1 (Jvm.Cond.code (⟨"java/lang/String", "indexOf", "(II)I"⟩ : MethodName) jdk_42_method_80_code 3 (some .int) :: ws) RMrmIx2) (fun a U => a = #[(.ref a1), (.int xx), (.int (0 : Int32))] ∧ Z.Warmed39 U.vm ∧ U.heap = h0) (fun _ _ _ _ _ => True) (fun _ U o U' => ∃ v L, o = .returned v ∧ QrmIx2 Z zc fm rt bl lg lv lk ci a1 cs xx h0 v U'.heap L ∧ FrameEnd U o U' L RMrmIx2.cells RMrmIx2.slots) := by
  refine MetFree.of_bodySF (plainFor_of_name pn_java_lang_String) hisR ?_
  intro p e s m args below meth c s₁ Bd hml0 hP hK
  obtain ⟨rfl, hZ, hh⟩ := hP
  have hx := Bd.exec
  have hby := Bd.bytes
  have hlk : meth.locks = false := BodyLoose.notSynchronized Bd
  have hret := Bd.returns
  have hml : c.maxLocals = 3 := hml0
  have hown : s.vm.findClass "java/lang/String" = some m.cls := findClass_of_methodNamed Bd.named
  have hnm := (name_of_methodNamed Bd.named Bd.method).1
  have X0 : Stand p l e RMrmIx2 s m #[(.ref a1), (.int xx), (.int (0 : Int32))] below meth c s₁ [] 0 0 := Stand.of_body Bd
  have e0 : s₁.heap = h0 := by rw [← hh, Bd.state]; rfl
  have N0 := Fr.nil Z.heap.size
  show OEnd p e below (GN s (QrmIx2 Z zc fm rt bl lg lv lk ci a1 cs xx h0) RMrmIx2.cells RMrmIx2.slots) _
  refine OEnd.of (fun tq kq => castTop (ef_rmIx2 m a1 xx) kq) ?_
  have So29 := Ss
  obtain ⟨Eo29, Co29, ⟨to29, ko29, Vo29, Ao29⟩, Bo29, lo29⟩ := So29
  refine OEnd.of (fun tq kq => XS.aloadN X0.here hx rfl (hb hby d10_0) rfl rfl kq) ?_
  show OEnd p e below _ (s₁.setTop (mkF m 1 #[.val (.ref a1), .val (.int xx), .val (.int (0 : Int32))] [(.ref a1)]))
  obtain ⟨cq30, kq30, q30a, q30b, q30c⟩ := isOf hZ e0 Eo29
  obtain ⟨_, _, ⟨T30, L30, k30, n30⟩, -, X30, ⟨Lc30, hQ30, l30, y30, z30⟩, st30⟩ := X0.virtualBack hx (y := (⟨"java/lang/String", "isLatin1", "()Z"⟩ : MethodName)) (z := (⟨"java/lang/String", "isLatin1", "()Z"⟩ : MethodName)) hown (mvT hZ (hw _ (List.mem_of_getElem? (i := 48) rfl))) (mvT hZ (hw _ (List.mem_of_getElem? (i := 49) rfl))) (notFace_of_selects (args := #[]) (mvT hZ (hw _ (List.mem_of_getElem? (i := 51) rfl)))) (mvT hZ (hw _ (List.mem_of_getElem? (i := 51) rfl))) (mvT hZ (hw _ (List.mem_of_getElem? (i := 50) rfl))) (by decide) (backOf (W := 0) (rmIsl l Z a0 hw zc fm rt bl lg lv lk ci S_CS hzc S_SF h_fm S_RT E_rt F_bl E_bl F_lg E_lg F_lv A_lv S_CI E_ci [] a1 cs h0 O0 Ss) hZ (hw _ (List.mem_of_getElem? (i := 52) rfl)) (hw _ (List.mem_of_getElem? (i := 7) rfl)) (by decide) (by decide)) q30a q30c (g := (mkF m 1 #[.val (.ref a1), .val (.int xx), .val (.int (0 : Int32))] [(.ref a1)])) rfl (by rw [hml]; rfl) (Steps.refl _) (argsL := []) (rest := []) (lenOf pd_2829Z rfl) rfl (by show 2 * 0 + _ ≤ _; exact Nat.le_of_eq rfl) (hb hby d10_1) (fun _ _ => ⟨rfl, e0, (by decide : 0 + 0 ≤ _), (by decide : 0 + 0 ≤ _)⟩)
  dsimp only [Pt.U, Pt.locs, Pt.cells, Pt.slots] at X30 l30 y30 z30 st30 hQ30
  subst l30 y30 z30
  obtain ⟨rfl, Nq30, e30⟩ := hQ30
  have N31 := Fr.app N0 Nq30
  refine OEnd.of (fun tq kq => st30.trans kq) ?_
  show OEnd p e below _ (T30.setTop (mkF m 4 #[.val (.ref a1), .val (.int xx), .val (.int (0 : Int32))] [(.int (1 : Int32))]))
  refine OEnd.of (fun tq kq => XS.ifNo X30.here hx rfl (hb hby d10_4) rfl ((if0 _ _).trans (feq (by decide : ¬ ((1 : Int32) = (0 : Int32)))).1) kq) ?_
  show OEnd p e below _ (T30.setTop (mkF m 7 #[.val (.ref a1), .val (.int xx), .val (.int (0 : Int32))] []))
  refine OEnd.of (fun tq kq => XS.aloadN X30.here hx rfl (hb hby d10_7) rfl rfl kq) ?_
  show OEnd p e below _ (T30.setTop (mkF m 8 #[.val (.ref a1), .val (.int xx), .val (.int (0 : Int32))] [(.ref a1)]))
  obtain ⟨T32, X32, e32, st32⟩ := getF X30 hx hZ hown (host := "") (Or.inl (hw _ (List.mem_of_getElem? (i := 32) rfl))) Via.refl e30 Vo29 (g := (mkF m 8 #[.val (.ref a1), .val (.int xx), .val (.int (0 : Int32))] [(.ref a1)])) rfl rfl (hb hby d10_8)
  refine OEnd.of st32 ?_
  show OEnd p e below _ (T32.setTop (mkF m 11 #[.val (.ref a1), .val (.int xx), .val (.int (0 : Int32))] [(.ref to29)]))
  refine OEnd.of (fun tq kq => XS.iloadN X32.here hx rfl (hb hby d10_11) rfl kq) ?_
  show OEnd p e below _ (T32.setTop (mkF m 12 #[.val (.ref a1), .val (.int xx), .val (.int (0 : Int32))] [(.int xx), (.ref to29)]))
  refine OEnd.of (fun tq kq => XS.iloadN X32.here hx rfl (hb hby d10_12) rfl kq) ?_
  show OEnd p e below _ (T32.setTop (mkF m 13 #[.val (.ref a1), .val (.int xx), .val (.int (0 : Int32))] [(.int (0 : Int32)), (.int xx), (.ref to29)]))
  refine OEnd.of (fun tq kq => XS.aloadN X32.here hx rfl (hb hby d10_13) rfl rfl kq) ?_
  show OEnd p e below _ (T32.setTop (mkF m 14 #[.val (.ref a1), .val (.int xx), .val (.int (0 : Int32))] [(.ref a1), (.int (0 : Int32)), (.int xx), (.ref to29)]))
  obtain ⟨cq33, kq33, q33a, q33b, q33c⟩ := isOf hZ e32 Eo29
  obtain ⟨_, _, ⟨T33, L33, k33, n33⟩, -, X33, ⟨Lc33, hQ33, l33, y33, z33⟩, st33⟩ := X32.virtualBack hx (y := (⟨"java/lang/String", "length", "()I"⟩ : MethodName)) (z := (⟨"java/lang/String", "length", "()I"⟩ : MethodName)) hown (mvT hZ (hw _ (List.mem_of_getElem? (i := 53) rfl))) (mvT hZ (hw _ (List.mem_of_getElem? (i := 54) rfl))) (notFace_of_selects (args := #[]) (mvT hZ (hw _ (List.mem_of_getElem? (i := 56) rfl)))) (mvT hZ (hw _ (List.mem_of_getElem? (i := 56) rfl))) (mvT hZ (hw _ (List.mem_of_getElem? (i := 55) rfl))) (by decide) (backOf (W := 3) (rmLen l Z a0 hw zc fm rt bl lg lv lk ci S_CS hzc S_SF h_fm S_RT E_rt F_bl E_bl F_lg E_lg F_lv A_lv S_CI E_ci [] a1 cs h0 O0 Ss) hZ (hw _ (List.mem_of_getElem? (i := 57) rfl)) (hw _ (List.mem_of_getElem? (i := 7) rfl)) (by decide) (by decide)) q33a q33c (g := (mkF m 14 #[.val (.ref a1), .val (.int xx), .val (.int (0 : Int32))] [(.ref a1), (.int (0 : Int32)), (.int xx), (.ref to29)])) rfl (by rw [hml]; rfl) (Steps.refl _) (argsL := []) (rest := [(.int (0 : Int32)), (.int xx), (.ref to29)]) (lenOf pd_2829I rfl) rfl (by show 2 * 0 + _ ≤ _; exact Nat.le_of_eq rfl) (hb hby d10_14) (fun _ _ => ⟨rfl, e32, (by decide : 0 + 0 ≤ _), (by decide : 0 + 0 ≤ _)⟩)
  dsimp only [Pt.U, Pt.locs, Pt.cells, Pt.slots] at X33 l33 y33 z33 st33 hQ33
  subst l33 y33 z33
  obtain ⟨rfl, Nq33, e33⟩ := hQ33
  have N34 := Fr.app N31 Nq33
  refine OEnd.of (fun tq kq => st33.trans kq) ?_
  show OEnd p e below _ (T33.setTop (mkF m 17 #[.val (.ref a1), .val (.int xx), .val (.int (0 : Int32))] [(.int (Int32.ofNat cs.length)), (.int (0 : Int32)), (.int xx), (.ref to29)]))
  obtain ⟨_, _, ⟨T35, L35, k35, n35⟩, -, X35, ⟨Lc35, hQ35, l35, y35, z35⟩, st35⟩ := Jvm.LawKit.callS X33 hx (y := (⟨"java/lang/StringLatin1", "indexOf", "([BIII)I"⟩ : MethodName)) hown (mvT hZ (hw _ (List.mem_of_getElem? (i := 63) rfl))) (mvT hZ (hw _ (List.mem_of_getElem? (i := 64) rfl))) (mvT hZ (hw _ (List.mem_of_getElem? (i := 65) rfl))) (mvT hZ (hw _ (List.mem_of_getElem? (i := 66) rfl))) (by decide) (backOf (W := 0) (rmIxb l Z a0 hw zc fm rt bl lg lv lk ci S_CS hzc S_SF h_fm S_RT E_rt F_bl E_bl F_lg E_lg F_lv A_lv S_CI E_ci [] to29 ko29 cs xx h0 O0 Ao29 Bo29 hl hxx) hZ (hw _ (List.mem_of_getElem? (i := 66) rfl)) (hw _ (List.mem_of_getElem? (i := 65) rfl)) (by decide) (by decide)) (g := (mkF m 17 #[.val (.ref a1), .val (.int xx), .val (.int (0 : Int32))] [(.int (Int32.ofNat cs.length)), (.int (0 : Int32)), (.int xx), (.ref to29)])) rfl (by rw [hml]; rfl) (argsL := [(.ref to29), (.int xx), (.int (0 : Int32)), (.int (Int32.ofNat cs.length))]) (rest := []) (lenOf pd_285bBIII29I rfl) rfl (by show 2 * 0 + _ ≤ _; exact Nat.le_of_eq rfl) (hb hby d10_17) (fun _ _ => ⟨rfl, e33, (by decide : 0 + 0 ≤ _), (by decide : 0 + 0 ≤ _)⟩)
  dsimp only [Pt.U, Pt.locs, Pt.cells, Pt.slots] at X35 l35 y35 z35 st35 hQ35
  subst l35 y35 z35
  obtain ⟨r_36, rfl, Nq35, e35, hr_37⟩ := hQ35
  have N38 := Fr.app N34 Nq35
  refine OEnd.of st35 ?_
  show OEnd p e below _ (T35.setTop (mkF m 20 #[.val (.ref a1), .val (.int xx), .val (.int (0 : Int32))] [(.int r_36)]))
  refine OEnd.of (fun tq kq => XS.goto X35.here hx rfl (pc0 := 20) (pc' := 36) rfl (hb hby d10_20) (by decide) (by decide) kq) ?_
  show OEnd p e below _ (T35.setTop (mkF m 36 #[.val (.ref a1), .val (.int xx), .val (.int (0 : Int32))] [(.int r_36)]))
  exact OEnd.retI X35 hx hlk e35 hret (hb hby d10_36) ⟨r_36, rfl, N38, rfl, hr_37⟩ (by decide) (by decide)
theorem d9_0 : decode jdk_42_method_79_code 0 = .ok (.aload_n 0, 1) := by decide +kernel
theorem d9_1 : decode jdk_42_method_79_code 1 = .ok (.iload_n 1, 1) := by decide +kernel
theorem d9_2 : decode jdk_42_method_79_code 2 = .ok (.iconst 0, 1) := by decide +kernel
theorem d9_3 : decode jdk_42_method_79_code 3 = .ok (.invokevirtual 633, 3) := by decide +kernel
theorem d9_6 : decode jdk_42_method_79_code 6 = .ok (.ireturn, 1) := by decide +kernel
abbrev RMrmIx1 : Room := { frames := 3, cells := 0, slots := 0, locals := 46 }
theorem ef_rmIx1 (m : MethodId) (a1 : Addr) (xx : Int32) : entryFrame m #[(.ref a1), (.int xx)] 2 = mkF m 0 #[.val (.ref a1), .val (.int xx)] [] := by first | (simp [entryFrame, mkF, argsToLocals, Value.category]; done) | rfl
def QrmIx1 (Z : State) (zc : Int32) (fm : Value) (rt : Addr) (bl : Addr) (lg : Addr) (lv : Addr) (lk : ClassId) (ci : Addr) (a1 : Addr) (cs : List Int32) (xx : Int32) (h0 : Heap) (v : Option Value) (h : Heap) (L : List Loc) : Prop := ∃ (r : Int32), v = some (.int r) ∧ Fr Z.heap.size L ∧ h = h0 ∧ (own_Ix cs xx r)
set_option maxRecDepth 65536 in
set_option maxHeartbeats 40000000 in
theorem rmIx1 (l : Launch) (Z : State) (a0 : Array Value) (hw : ∀ d ∈ tables_1, d.before a0 Z = true) (zc : Int32) (fm : Value) (rt : Addr) (bl : Addr) (lg : Addr) (lv : Addr) (lk : ClassId) (ci : Addr) (S_CS : Sta Z Z.heap "java/lang/String" "COMPACT_STRINGS" "Z" (.int zc)) (hzc : ¬ zc = 0) (S_SF : Sta Z Z.heap "jdk/internal/util/Preconditions" "SIOOBE_FORMATTER" "Ljava/util/function/BiFunction;" fm) (h_fm : fm.isRef = true) (S_RT : Sta Z Z.heap "java/util/Locale" "ROOT" "Ljava/util/Locale;" (.ref rt)) (E_rt : Exa Z Z.heap rt "java/util/Locale") (F_bl : Fld Z Z.heap rt "java/util/Locale" "baseLocale" "Lsun/util/locale/BaseLocale;" (.ref bl)) (E_bl : Exa Z Z.heap bl "sun/util/locale/BaseLocale") (F_lg : Fld Z Z.heap bl "sun/util/locale/BaseLocale" "language" "Ljava/lang/String;" (.ref lg)) (E_lg : Exa Z Z.heap lg "java/lang/String") (F_lv : Fld Z Z.heap lg "java/lang/String" "value" "[B" (.ref lv)) (A_lv : Arv Z Z.heap lv lk .byte (0 : Int32) [] (.int (0 : Int32))) (S_CI : Sta Z Z.heap "java/lang/CharacterDataLatin1" "instance" "Ljava/lang/CharacterDataLatin1;" (.ref ci)) (E_ci : Exa Z Z.heap ci "java/lang/CharacterDataLatin1") (ws : List Jvm.Cond) (a1 : Addr) (cs : List Int32) (xx : Int32) (h0 : Heap) (O0 : Ext Z.heap h0) (Ss : IsStr Z h0 a1 cs) (hl : cs.length ≤ 8) (hxx : ¬ xx < 0 ∧ ¬ (255 : Int32) < xx) :
    MetFree l (⟨"java/lang/String", "indexOf", "(I)I"⟩ : MethodName) (head1 (Jvm.Cond.code (⟨"java/lang/String", "indexOf", "(I)I"⟩ : MethodName) jdk_42_method_79_code 2 (some .int) :: ws) RMrmIx1) (fun a U => a = #[(.ref a1), (.int xx)] ∧ Z.Warmed39 U.vm ∧ U.heap = h0) (fun _ _ _ _ _ => True) (fun _ U o U' => ∃ v L, o = .returned v ∧ QrmIx1 Z zc fm rt bl lg lv lk ci a1 cs xx h0 v U'.heap L ∧ FrameEnd U o U' L RMrmIx1.cells RMrmIx1.slots) := by
  refine MetFree.of_bodySF (plainFor_of_name pn_java_lang_String) hisR ?_
  intro p e s m args below meth c s₁ Bd hml0 hP hK
  obtain ⟨rfl, hZ, hh⟩ := hP
  have hx := Bd.exec
  have hby := Bd.bytes
  have hlk : meth.locks = false := BodyLoose.notSynchronized Bd
  have hret := Bd.returns
  have hml : c.maxLocals = 2 := hml0
  have hown : s.vm.findClass "java/lang/String" = some m.cls := findClass_of_methodNamed Bd.named
  have hnm := (name_of_methodNamed Bd.named Bd.method).1
  have X0 : Stand p l e RMrmIx1 s m #[(.ref a1), (.int xx)] below meth c s₁ [] 0 0 := Stand.of_body Bd
  have e0 : s₁.heap = h0 := by rw [← hh, Bd.state]; rfl
  have N0 := Fr.nil Z.heap.size
  show OEnd p e below (GN s (QrmIx1 Z zc fm rt bl lg lv lk ci a1 cs xx h0) RMrmIx1.cells RMrmIx1.slots) _
  refine OEnd.of (fun tq kq => castTop (ef_rmIx1 m a1 xx) kq) ?_
  have Ea := Ss.1
  refine OEnd.of (fun tq kq => XS.aloadN X0.here hx rfl (hb hby d9_0) rfl rfl kq) ?_
  show OEnd p e below _ (s₁.setTop (mkF m 1 #[.val (.ref a1), .val (.int xx)] [(.ref a1)]))
  refine OEnd.of (fun tq kq => XS.iloadN X0.here hx rfl (hb hby d9_1) rfl kq) ?_
  show OEnd p e below _ (s₁.setTop (mkF m 2 #[.val (.ref a1), .val (.int xx)] [(.int xx), (.ref a1)]))
  refine OEnd.of (fun tq kq => XS.iconst X0.here hx rfl (hb hby d9_2) kq) ?_
  show OEnd p e below _ (s₁.setTop (mkF m 3 #[.val (.ref a1), .val (.int xx)] [(.int (0 : Int32)), (.int xx), (.ref a1)]))
  obtain ⟨cq39, kq39, q39a, q39b, q39c⟩ := isOf hZ e0 Ea
  obtain ⟨_, _, ⟨T39, L39, k39, n39⟩, -, X39, ⟨Lc39, hQ39, l39, y39, z39⟩, st39⟩ := X0.virtualBack hx (y := (⟨"java/lang/String", "indexOf", "(II)I"⟩ : MethodName)) (z := (⟨"java/lang/String", "indexOf", "(II)I"⟩ : MethodName)) hown (mvT hZ (hw _ (List.mem_of_getElem? (i := 43) rfl))) (mvT hZ (hw _ (List.mem_of_getElem? (i := 44) rfl))) (notFace_of_selects (args := #[]) (mvT hZ (hw _ (List.mem_of_getElem? (i := 46) rfl)))) (mvT hZ (hw _ (List.mem_of_getElem? (i := 46) rfl))) (mvT hZ (hw _ (List.mem_of_getElem? (i := 45) rfl))) (by decide) (backOf (W := 0) (rmIx2 l Z a0 hw zc fm rt bl lg lv lk ci S_CS hzc S_SF h_fm S_RT E_rt F_bl E_bl F_lg E_lg F_lv A_lv S_CI E_ci [] a1 cs xx h0 O0 Ss hl hxx) hZ (hw _ (List.mem_of_getElem? (i := 47) rfl)) (hw _ (List.mem_of_getElem? (i := 7) rfl)) (by decide) (by decide)) q39a q39c (g := (mkF m 3 #[.val (.ref a1), .val (.int xx)] [(.int (0 : Int32)), (.int xx), (.ref a1)])) rfl (by rw [hml]; rfl) (Steps.refl _) (argsL := [(.int xx), (.int (0 : Int32))]) (rest := []) (lenOf pd_28II29I rfl) rfl (by show 2 * 0 + _ ≤ _; exact Nat.le_of_eq rfl) (hb hby d9_3) (fun _ _ => ⟨rfl, e0, (by decide : 0 + 0 ≤ _), (by decide : 0 + 0 ≤ _)⟩)
  dsimp only [Pt.U, Pt.locs, Pt.cells, Pt.slots] at X39 l39 y39 z39 st39 hQ39
  subst l39 y39 z39
  obtain ⟨r_40, rfl, Nq39, e39, hr_41⟩ := hQ39
  have N42 := Fr.app N0 Nq39
  refine OEnd.of (fun tq kq => st39.trans kq) ?_
  show OEnd p e below _ (T39.setTop (mkF m 6 #[.val (.ref a1), .val (.int xx)] [(.int r_40)]))
  exact OEnd.retI X39 hx hlk e39 hret (hb hby d9_6) ⟨r_40, rfl, N42, rfl, hr_41⟩ (by decide) (by decide)
theorem d30_0 : decode jdk_65_method_131_code 0 = .ok (.iload_n 1, 1) := by decide +kernel
theorem d30_1 : decode jdk_65_method_131_code 1 = .ok (.iload_n 0, 1) := by decide +kernel
theorem d30_2 : decode jdk_65_method_131_code 2 = .ok (.if_icmp .ge 35, 3) := by decide +kernel
theorem d30_37 : decode jdk_65_method_131_code 37 = .ok (.return_, 1) := by decide +kernel
theorem pn_java_util_Arrays : plainName "java/util/Arrays" = true := by first | (simp [plainName, overriddenIn]; done) | decide +kernel
abbrev RMrmChl : Room := { frames := 0, cells := 0, slots := 0, locals := 0 }
theorem ef_rmChl (m : MethodId) (p1 : Int32) (p2 : Int32) : entryFrame m #[(.int p1), (.int p2)] 2 = mkF m 0 #[.val (.int p1), .val (.int p2)] [] := by first | (simp [entryFrame, mkF, argsToLocals, Value.category]; done) | rfl
def QrmChl (Z : State) (zc : Int32) (fm : Value) (rt : Addr) (bl : Addr) (lg : Addr) (lv : Addr) (lk : ClassId) (ci : Addr) (p1 : Int32) (p2 : Int32) (h0 : Heap) (v : Option Value) (h : Heap) (L : List Loc) : Prop := v = none ∧ Fr Z.heap.size L ∧ h = h0
set_option maxRecDepth 65536 in
set_option maxHeartbeats 40000000 in
theorem rmChl (l : Launch) (Z : State) (a0 : Array Value) (hw : ∀ d ∈ tables_1, d.before a0 Z = true) (zc : Int32) (fm : Value) (rt : Addr) (bl : Addr) (lg : Addr) (lv : Addr) (lk : ClassId) (ci : Addr) (S_CS : Sta Z Z.heap "java/lang/String" "COMPACT_STRINGS" "Z" (.int zc)) (hzc : ¬ zc = 0) (S_SF : Sta Z Z.heap "jdk/internal/util/Preconditions" "SIOOBE_FORMATTER" "Ljava/util/function/BiFunction;" fm) (h_fm : fm.isRef = true) (S_RT : Sta Z Z.heap "java/util/Locale" "ROOT" "Ljava/util/Locale;" (.ref rt)) (E_rt : Exa Z Z.heap rt "java/util/Locale") (F_bl : Fld Z Z.heap rt "java/util/Locale" "baseLocale" "Lsun/util/locale/BaseLocale;" (.ref bl)) (E_bl : Exa Z Z.heap bl "sun/util/locale/BaseLocale") (F_lg : Fld Z Z.heap bl "sun/util/locale/BaseLocale" "language" "Ljava/lang/String;" (.ref lg)) (E_lg : Exa Z Z.heap lg "java/lang/String") (F_lv : Fld Z Z.heap lg "java/lang/String" "value" "[B" (.ref lv)) (A_lv : Arv Z Z.heap lv lk .byte (0 : Int32) [] (.int (0 : Int32))) (S_CI : Sta Z Z.heap "java/lang/CharacterDataLatin1" "instance" "Ljava/lang/CharacterDataLatin1;" (.ref ci)) (E_ci : Exa Z Z.heap ci "java/lang/CharacterDataLatin1") (ws : List Jvm.Cond) (p1 : Int32) (p2 : Int32) (h0 : Heap) (O0 : Ext Z.heap h0) (hle : ¬ p2 < p1) :
    MetFree l (⟨"java/util/Arrays", "checkLength", "(II)V"⟩ : MethodName) (head1 (Jvm.Cond.code (⟨"java/util/Arrays", "checkLength", "(II)V"⟩ : MethodName) jdk_65_method_131_code 2 none :: ws) RMrmChl) (fun a U => a = #[(.int p1), (.int p2)] ∧ Z.Warmed39 U.vm ∧ U.heap = h0) (fun _ _ _ _ _ => True) (fun _ U o U' => ∃ v L, o = .returned v ∧ QrmChl Z zc fm rt bl lg lv lk ci p1 p2 h0 v U'.heap L ∧ FrameEnd U o U' L RMrmChl.cells RMrmChl.slots) := by
  refine MetFree.of_bodySF (plainFor_of_name pn_java_util_Arrays) hisR ?_
  intro p e s m args below meth c s₁ Bd hml0 hP hK
  obtain ⟨rfl, hZ, hh⟩ := hP
  have hx := Bd.exec
  have hby := Bd.bytes
  have hlk : meth.locks = false := BodyLoose.notSynchronized Bd
  have hret := Bd.returns
  have hml : c.maxLocals = 2 := hml0
  have hown : s.vm.findClass "java/util/Arrays" = some m.cls := findClass_of_methodNamed Bd.named
  have hnm := (name_of_methodNamed Bd.named Bd.method).1
  have X0 : Stand p l e RMrmChl s m #[(.int p1), (.int p2)] below meth c s₁ [] 0 0 := Stand.of_body Bd
  have e0 : s₁.heap = h0 := by rw [← hh, Bd.state]; rfl
  have N0 := Fr.nil Z.heap.size
  show OEnd p e below (GN s (QrmChl Z zc fm rt bl lg lv lk ci p1 p2 h0) RMrmChl.cells RMrmChl.slots) _
  refine OEnd.of (fun tq kq => castTop (ef_rmChl m p1 p2) kq) ?_
  refine OEnd.of (fun tq kq => XS.iloadN X0.here hx rfl (hb hby d30_0) rfl kq) ?_
  show OEnd p e below _ (s₁.setTop (mkF m 1 #[.val (.int p1), .val (.int p2)] [(.int p2)]))
  refine OEnd.of (fun tq kq => XS.iloadN X0.here hx rfl (hb hby d30_1) rfl kq) ?_
  show OEnd p e below _ (s₁.setTop (mkF m 2 #[.val (.int p1), .val (.int p2)] [(.int p1), (.int p2)]))
  refine OEnd.of (fun tq kq => XS.icmpYes X0.here hx rfl (pc0 := 2) (pc' := 37) rfl (hb hby d30_2) rfl (flt hle).2.1 (by decide) (by decide) kq) ?_
  show OEnd p e below _ (s₁.setTop (mkF m 37 #[.val (.int p1), .val (.int p2)] []))
  exact OEnd.retV X0 hx hlk e0 hret (hb hby d30_37) ⟨rfl, N0, rfl⟩ (by decide) (by decide)
theorem pd_28II29V : parseMethodDescriptor "(II)V" = some ⟨[.int, .int], none⟩ := by decide +kernel
theorem d29_0 : decode jdk_65_method_133_code 0 = .ok (.iload_n 1, 1) := by decide +kernel
theorem d29_1 : decode jdk_65_method_133_code 1 = .ok (.iload_n 2, 1) := by decide +kernel
theorem d29_2 : decode jdk_65_method_133_code 2 = .ok (.invokestatic 343, 3) := by decide +kernel
theorem d29_5 : decode jdk_65_method_133_code 5 = .ok (.iload_n 2, 1) := by decide +kernel
theorem d29_6 : decode jdk_65_method_133_code 6 = .ok (.iload_n 1, 1) := by decide +kernel
theorem d29_7 : decode jdk_65_method_133_code 7 = .ok (.isub, 1) := by decide +kernel
theorem d29_8 : decode jdk_65_method_133_code 8 = .ok (.istore_n 3, 1) := by decide +kernel
theorem d29_9 : decode jdk_65_method_133_code 9 = .ok (.iload_n 3, 1) := by decide +kernel
theorem d29_10 : decode jdk_65_method_133_code 10 = .ok (.newarray .byte, 2) := by decide +kernel
theorem d29_12 : decode jdk_65_method_133_code 12 = .ok (.astore 4, 2) := by decide +kernel
theorem d29_14 : decode jdk_65_method_133_code 14 = .ok (.aload_n 0, 1) := by decide +kernel
theorem d29_15 : decode jdk_65_method_133_code 15 = .ok (.iload_n 1, 1) := by decide +kernel
theorem d29_16 : decode jdk_65_method_133_code 16 = .ok (.aload 4, 2) := by decide +kernel
theorem d29_18 : decode jdk_65_method_133_code 18 = .ok (.iconst 0, 1) := by decide +kernel
theorem d29_19 : decode jdk_65_method_133_code 19 = .ok (.aload_n 0, 1) := by decide +kernel
theorem d29_20 : decode jdk_65_method_133_code 20 = .ok (.arraylength, 1) := by decide +kernel
theorem d29_21 : decode jdk_65_method_133_code 21 = .ok (.iload_n 1, 1) := by decide +kernel
theorem d29_22 : decode jdk_65_method_133_code 22 = .ok (.isub, 1) := by decide +kernel
theorem d29_23 : decode jdk_65_method_133_code 23 = .ok (.iload_n 3, 1) := by decide +kernel
theorem d29_24 : decode jdk_65_method_133_code 24 = .ok (.invokestatic 304, 3) := by decide +kernel
theorem d29_27 : decode jdk_65_method_133_code 27 = .ok (.invokestatic 150, 3) := by decide +kernel
theorem d29_30 : decode jdk_65_method_133_code 30 = .ok (.aload 4, 2) := by decide +kernel
theorem d29_32 : decode jdk_65_method_133_code 32 = .ok (.areturn, 1) := by decide +kernel
abbrev RMrmCrb : Room := { frames := 1, cells := 1, slots := 8, locals := 24 }
theorem ef_rmCrb (m : MethodId) (t : Addr) (oo : Nat) (nn : Nat) : entryFrame m #[(.ref t), (.int (Int32.ofNat oo)), (.int (Int32.ofNat (oo + nn)))] 5 = mkF m 0 #[.val (.ref t), .val (.int (Int32.ofNat oo)), .val (.int (Int32.ofNat (oo + nn))), .unset, .unset] [] := by first | (simp [entryFrame, mkF, argsToLocals, Value.category]; done) | rfl
def QrmCrb (Z : State) (zc : Int32) (fm : Value) (rt : Addr) (bl : Addr) (lg : Addr) (lv : Addr) (lk : ClassId) (ci : Addr) (t : Addr) (kb : ClassId) (cs : List Int32) (oo : Nat) (nn : Nat) (h0 : Heap) (v : Option Value) (h : Heap) (L : List Loc) : Prop := ∃ (b : Addr) (kb2 : ClassId), v = some (.ref b) ∧ Fr Z.heap.size L ∧ Keep h0 h [] ∧ Arv Z h b kb2 .byte (Int32.ofNat nn) (BB ((cs.drop oo).take nn)) (.int (0 : Int32))
set_option maxRecDepth 65536 in
set_option maxHeartbeats 40000000 in
theorem rmCrb (l : Launch) (Z : State) (a0 : Array Value) (hw : ∀ d ∈ tables_1, d.before a0 Z = true) (zc : Int32) (fm : Value) (rt : Addr) (bl : Addr) (lg : Addr) (lv : Addr) (lk : ClassId) (ci : Addr) (S_CS : Sta Z Z.heap "java/lang/String" "COMPACT_STRINGS" "Z" (.int zc)) (hzc : ¬ zc = 0) (S_SF : Sta Z Z.heap "jdk/internal/util/Preconditions" "SIOOBE_FORMATTER" "Ljava/util/function/BiFunction;" fm) (h_fm : fm.isRef = true) (S_RT : Sta Z Z.heap "java/util/Locale" "ROOT" "Ljava/util/Locale;" (.ref rt)) (E_rt : Exa Z Z.heap rt "java/util/Locale") (F_bl : Fld Z Z.heap rt "java/util/Locale" "baseLocale" "Lsun/util/locale/BaseLocale;" (.ref bl)) (E_bl : Exa Z Z.heap bl "sun/util/locale/BaseLocale") (F_lg : Fld Z Z.heap bl "sun/util/locale/BaseLocale" "language" "Ljava/lang/String;" (.ref lg)) (E_lg : Exa Z Z.heap lg "java/lang/String") (F_lv : Fld Z Z.heap lg "java/lang/String" "value" "[B" (.ref lv)) (A_lv : Arv Z Z.heap lv lk .byte (0 : Int32) [] (.int (0 : Int32))) (S_CI : Sta Z Z.heap "java/lang/CharacterDataLatin1" "instance" "Ljava/lang/CharacterDataLatin1;" (.ref ci)) (E_ci : Exa Z Z.heap ci "java/lang/CharacterDataLatin1") (ws : List Jvm.Cond) (t : Addr) (kb : ClassId) (cs : List Int32) (oo : Nat) (nn : Nat) (h0 : Heap) (O0 : Ext Z.heap h0) (At : Arv Z h0 t kb .byte (Int32.ofNat cs.length) (BB cs) (.int (0 : Int32))) (hcs : ∀ c ∈ cs, ¬ c < 0 ∧ ¬ (255 : Int32) < c) (hl : cs.length ≤ 8) (hon : oo + nn ≤ cs.length) :
    MetFree l (⟨"java/util/Arrays", "copyOfRangeByte", "([BII)[B"⟩ : MethodName) (head1 (Jvm.Cond.code (⟨"java/util/Arrays", "copyOfRangeByte", "([BII)[B"⟩ : MethodName) jdk_65_method_133_code 5 (some (.array .byte)) :: ws) RMrmCrb) (fun a U => a = #[(.ref t), (.int (Int32.ofNat oo)), (.int (Int32.ofNat (oo + nn)))] ∧ Z.Warmed39 U.vm ∧ U.heap = h0) (fun _ _ _ _ _ => True) (fun _ U o U' => ∃ v L, o = .returned v ∧ QrmCrb Z zc fm rt bl lg lv lk ci t kb cs oo nn h0 v U'.heap L ∧ FrameEnd U o U' L RMrmCrb.cells RMrmCrb.slots) := by
  refine MetFree.of_bodySF (plainFor_of_name pn_java_util_Arrays) hisR ?_
  intro p e s m args below meth c s₁ Bd hml0 hP hK
  obtain ⟨rfl, hZ, hh⟩ := hP
  have hx := Bd.exec
  have hby := Bd.bytes
  have hlk : meth.locks = false := BodyLoose.notSynchronized Bd
  have hret := Bd.returns
  have hml : c.maxLocals = 5 := hml0
  have hown : s.vm.findClass "java/util/Arrays" = some m.cls := findClass_of_methodNamed Bd.named
  have hnm := (name_of_methodNamed Bd.named Bd.method).1
  have X0 : Stand p l e RMrmCrb s m #[(.ref t), (.int (Int32.ofNat oo)), (.int (Int32.ofNat (oo + nn)))] below meth c s₁ [] 0 0 := Stand.of_body Bd
  have e0 : s₁.heap = h0 := by rw [← hh, Bd.state]; rfl
  have N0 := Fr.nil Z.heap.size
  show OEnd p e below (GN s (QrmCrb Z zc fm rt bl lg lv lk ci t kb cs oo nn h0) RMrmCrb.cells RMrmCrb.slots) _
  refine OEnd.of (fun tq kq => castTop (ef_rmCrb m t oo nn) kq) ?_
  have hl4 : cs.length ≤ 4000 := Nat.le_trans hl (by decide)
  have hn8 : nn ≤ 8 := by omega
  have ho8 : oo ≤ 8 := by omega
  refine OEnd.of (fun tq kq => XS.iloadN X0.here hx rfl (hb hby d29_0) rfl kq) ?_
  show OEnd p e below _ (s₁.setTop (mkF m 1 #[.val (.ref t), .val (.int (Int32.ofNat oo)), .val (.int (Int32.ofNat (oo + nn))), .unset, .unset] [(.int (Int32.ofNat oo))]))
  refine OEnd.of (fun tq kq => XS.iloadN X0.here hx rfl (hb hby d29_1) rfl kq) ?_
  show OEnd p e below _ (s₁.setTop (mkF m 2 #[.val (.ref t), .val (.int (Int32.ofNat oo)), .val (.int (Int32.ofNat (oo + nn))), .unset, .unset] [(.int (Int32.ofNat (oo + nn))), (.int (Int32.ofNat oo))]))
  obtain ⟨_, _, ⟨T43, L43, k43, n43⟩, -, X43, ⟨Lc43, hQ43, l43, y43, z43⟩, st43⟩ := Jvm.LawKit.callS X0 hx (y := (⟨"java/util/Arrays", "checkLength", "(II)V"⟩ : MethodName)) hown (mvT hZ (hw _ (List.mem_of_getElem? (i := 129) rfl))) (mvT hZ (hw _ (List.mem_of_getElem? (i := 130) rfl))) (mvT hZ (hw _ (List.mem_of_getElem? (i := 124) rfl))) (mvT hZ (hw _ (List.mem_of_getElem? (i := 131) rfl))) (by decide) (backOf (W := 0) (rmChl l Z a0 hw zc fm rt bl lg lv lk ci S_CS hzc S_SF h_fm S_RT E_rt F_bl E_bl F_lg E_lg F_lv A_lv S_CI E_ci [] (Int32.ofNat oo) (Int32.ofNat (oo + nn)) h0 O0 (fun q => absurd ((own_ltN (by omega) (by omega)).mp q) (by omega))) hZ (hw _ (List.mem_of_getElem? (i := 131) rfl)) (hw _ (List.mem_of_getElem? (i := 124) rfl)) (by decide) (by decide)) (g := (mkF m 2 #[.val (.ref t), .val (.int (Int32.ofNat oo)), .val (.int (Int32.ofNat (oo + nn))), .unset, .unset] [(.int (Int32.ofNat (oo + nn))), (.int (Int32.ofNat oo))])) rfl (by rw [hml]; rfl) (argsL := [(.int (Int32.ofNat oo)), (.int (Int32.ofNat (oo + nn)))]) (rest := []) (lenOf pd_28II29V rfl) rfl (by show 2 * 0 + _ ≤ _; exact Nat.le_of_eq rfl) (hb hby d29_2) (fun _ _ => ⟨rfl, e0, (by decide : 0 + 0 ≤ _), (by decide : 0 + 0 ≤ _)⟩)
  dsimp only [Pt.U, Pt.locs, Pt.cells, Pt.slots] at X43 l43 y43 z43 st43 hQ43
  subst l43 y43 z43
  obtain ⟨rfl, Nq43, e43⟩ := hQ43
  have N44 := Fr.app N0 Nq43
  refine OEnd.of st43 ?_
  show OEnd p e below _ (T43.setTop (mkF m 5 #[.val (.ref t), .val (.int (Int32.ofNat oo)), .val (.int (Int32.ofNat (oo + nn))), .unset, .unset] []))
  refine OEnd.of (fun tq kq => XS.iloadN X43.here hx rfl (hb hby d29_5) rfl kq) ?_
  show OEnd p e below _ (T43.setTop (mkF m 6 #[.val (.ref t), .val (.int (Int32.ofNat oo)), .val (.int (Int32.ofNat (oo + nn))), .unset, .unset] [(.int (Int32.ofNat (oo + nn)))]))
  refine OEnd.of (fun tq kq => XS.iloadN X43.here hx rfl (hb hby d29_6) rfl kq) ?_
  show OEnd p e below _ (T43.setTop (mkF m 7 #[.val (.ref t), .val (.int (Int32.ofNat oo)), .val (.int (Int32.ofNat (oo + nn))), .unset, .unset] [(.int (Int32.ofNat oo)), (.int (Int32.ofNat (oo + nn)))]))
  refine OEnd.of (fun tq kq => XS.isub X43.here hx rfl (hb hby d29_7) rfl kq) ?_
  show OEnd p e below _ (T43.setTop (mkF m 8 #[.val (.ref t), .val (.int (Int32.ofNat oo)), .val (.int (Int32.ofNat (oo + nn))), .unset, .unset] [(.int ((Int32.ofNat (oo + nn)) - (Int32.ofNat oo)))]))
  rw [show ((Int32.ofNat (oo + nn)) - (Int32.ofNat oo)) = (Int32.ofNat nn) from own_subA oo nn]
  show OEnd p e below _ (T43.setTop (mkF m 8 #[.val (.ref t), .val (.int (Int32.ofNat oo)), .val (.int (Int32.ofNat (oo + nn))), .unset, .unset] [(.int (Int32.ofNat nn))]))
  refine OEnd.of (fun tq kq => XS.istoreN X43.here hx rfl (hb hby d29_8) rfl (l' := #[.val (.ref t), .val (.int (Int32.ofNat oo)), .val (.int (Int32.ofNat (oo + nn))), .val (.int (Int32.ofNat nn)), .unset]) rfl kq) ?_
  show OEnd p e below _ (T43.setTop (mkF m 9 #[.val (.ref t), .val (.int (Int32.ofNat oo)), .val (.int (Int32.ofNat (oo + nn))), .val (.int (Int32.ofNat nn)), .unset] []))
  refine OEnd.of (fun tq kq => XS.iloadN X43.here hx rfl (hb hby d29_9) rfl kq) ?_
  show OEnd p e below _ (T43.setTop (mkF m 10 #[.val (.ref t), .val (.int (Int32.ofNat oo)), .val (.int (Int32.ofNat (oo + nn))), .val (.int (Int32.ofNat nn)), .unset] [(.int (Int32.ofNat nn))]))
  obtain ⟨T45, h45, k45, X45, e45, E45, A45, st45⟩ := newP X43 hx hZ (hw _ (List.mem_of_getElem? (i := 23) rfl)) e43 (g := (mkF m 10 #[.val (.ref t), .val (.int (Int32.ofNat oo)), .val (.int (Int32.ofNat (oo + nn))), .val (.int (Int32.ofNat nn)), .unset] [(.int (Int32.ofNat nn))])) rfl (hb hby d29_10) rfl (own_nn hn8) (cap := 8) (own_capN hn8) (by decide) (by decide) (by decide)
  obtain ⟨b45, g45⟩ : ∃ z, z = h0.size := ⟨_, rfl⟩
  rw [← g45] at A45 st45
  refine OEnd.of st45 ?_
  have V45 : Arv Z h45 b45 k45 .byte (Int32.ofNat nn) (List.replicate nn (.int (0 : Int32))) (.int (0 : Int32)) := (Arv.new A45 (own_nn hn8)).pad (pad_rep [] (.int (0 : Int32)) nn)
  have f45 : Z.heap.size ≤ b45 := Nat.le_trans O0.1 (Nat.le_of_eq g45.symm)
  show OEnd p e below _ (T45.setTop (mkF m 12 #[.val (.ref t), .val (.int (Int32.ofNat oo)), .val (.int (Int32.ofNat (oo + nn))), .val (.int (Int32.ofNat nn)), .unset] [(.ref b45)]))
  refine OEnd.of (fun tq kq => XS.astore X45.here hx rfl (hb hby d29_12) rfl rfl (l' := #[.val (.ref t), .val (.int (Int32.ofNat oo)), .val (.int (Int32.ofNat (oo + nn))), .val (.int (Int32.ofNat nn)), .val (.ref b45)]) rfl kq) ?_
  show OEnd p e below _ (T45.setTop (mkF m 14 #[.val (.ref t), .val (.int (Int32.ofNat oo)), .val (.int (Int32.ofNat (oo + nn))), .val (.int (Int32.ofNat nn)), .val (.ref b45)] []))
  refine OEnd.of (fun tq kq => XS.aloadN X45.here hx rfl (hb hby d29_14) rfl rfl kq) ?_
  show OEnd p e below _ (T45.setTop (mkF m 15 #[.val (.ref t), .val (.int (Int32.ofNat oo)), .val (.int (Int32.ofNat (oo + nn))), .val (.int (Int32.ofNat nn)), .val (.ref b45)] [(.ref t)]))
  refine OEnd.of (fun tq kq => XS.iloadN X45.here hx rfl (hb hby d29_15) rfl kq) ?_
  show OEnd p e below _ (T45.setTop (mkF m 16 #[.val (.ref t), .val (.int (Int32.ofNat oo)), .val (.int (Int32.ofNat (oo + nn))), .val (.int (Int32.ofNat nn)), .val (.ref b45)] [(.int (Int32.ofNat oo)), (.ref t)]))
  refine OEnd.of (fun tq kq => XS.aload X45.here hx rfl (hb hby d29_16) rfl rfl kq) ?_
  show OEnd p e below _ (T45.setTop (mkF m 18 #[.val (.ref t), .val (.int (Int32.ofNat oo)), .val (.int (Int32.ofNat (oo + nn))), .val (.int (Int32.ofNat nn)), .val (.ref b45)] [(.ref b45), (.int (Int32.ofNat oo)), (.ref t)]))
  refine OEnd.of (fun tq kq => XS.iconst X45.here hx rfl (hb hby d29_18) kq) ?_
  show OEnd p e below _ (T45.setTop (mkF m 19 #[.val (.ref t), .val (.int (Int32.ofNat oo)), .val (.int (Int32.ofNat (oo + nn))), .val (.int (Int32.ofNat nn)), .val (.ref b45)] [(.int (0 : Int32)), (.ref b45), (.int (Int32.ofNat oo)), (.ref t)]))
  refine OEnd.of (fun tq kq => XS.aloadN X45.here hx rfl (hb hby d29_19) rfl rfl kq) ?_
  show OEnd p e below _ (T45.setTop (mkF m 20 #[.val (.ref t), .val (.int (Int32.ofNat oo)), .val (.int (Int32.ofNat (oo + nn))), .val (.int (Int32.ofNat nn)), .val (.ref b45)] [(.ref t), (.int (0 : Int32)), (.ref b45), (.int (Int32.ofNat oo)), (.ref t)]))
  have K46 : Keep h0 h45 [] := ((Keep.refl h0 []).ext E45)
  have Vc47 := (At.keep K46 nin0)
  obtain ⟨cl47, Ar47, -, S47, N47, -, -⟩ := Vc47
  refine OEnd.of (X45.arraylength hx (by rw [e45]; exact Ar47.1) (State.isArrayOf_alike hZ.alike Ar47.2.1) (g := (mkF m 20 #[.val (.ref t), .val (.int (Int32.ofNat oo)), .val (.int (Int32.ofNat (oo + nn))), .val (.int (Int32.ofNat nn)), .val (.ref b45)] [(.ref t), (.int (0 : Int32)), (.ref b45), (.int (Int32.ofNat oo)), (.ref t)])) rfl rfl (hb hby d29_20)) ?_
  rw [len_of S47 N47]
  show OEnd p e below _ (T45.setTop (mkF m 21 #[.val (.ref t), .val (.int (Int32.ofNat oo)), .val (.int (Int32.ofNat (oo + nn))), .val (.int (Int32.ofNat nn)), .val (.ref b45)] [(.int (Int32.ofNat cs.length)), (.int (0 : Int32)), (.ref b45), (.int (Int32.ofNat oo)), (.ref t)]))
  refine OEnd.of (fun tq kq => XS.iloadN X45.here hx rfl (hb hby d29_21) rfl kq) ?_
  show OEnd p e below _ (T45.setTop (mkF m 22 #[.val (.ref t), .val (.int (Int32.ofNat oo)), .val (.int (Int32.ofNat (oo + nn))), .val (.int (Int32.ofNat nn)), .val (.ref b45)] [(.int (Int32.ofNat oo)), (.int (Int32.ofNat cs.length)), (.int (0 : Int32)), (.ref b45), (.int (Int32.ofNat oo)), (.ref t)]))
  refine OEnd.of (fun tq kq => XS.isub X45.here hx rfl (hb hby d29_22) rfl kq) ?_
  show OEnd p e below _ (T45.setTop (mkF m 23 #[.val (.ref t), .val (.int (Int32.ofNat oo)), .val (.int (Int32.ofNat (oo + nn))), .val (.int (Int32.ofNat nn)), .val (.ref b45)] [(.int ((Int32.ofNat cs.length) - (Int32.ofNat oo))), (.int (0 : Int32)), (.ref b45), (.int (Int32.ofNat oo)), (.ref t)]))
  rw [show ((Int32.ofNat cs.length) - (Int32.ofNat oo)) = (Int32.ofNat (cs.length - oo)) from own_sub (by omega)]
  show OEnd p e below _ (T45.setTop (mkF m 23 #[.val (.ref t), .val (.int (Int32.ofNat oo)), .val (.int (Int32.ofNat (oo + nn))), .val (.int (Int32.ofNat nn)), .val (.ref b45)] [(.int (Int32.ofNat (cs.length - oo))), (.int (0 : Int32)), (.ref b45), (.int (Int32.ofNat oo)), (.ref t)]))
  refine OEnd.of (fun tq kq => XS.iloadN X45.here hx rfl (hb hby d29_23) rfl kq) ?_
  show OEnd p e below _ (T45.setTop (mkF m 24 #[.val (.ref t), .val (.int (Int32.ofNat oo)), .val (.int (Int32.ofNat (oo + nn))), .val (.int (Int32.ofNat nn)), .val (.ref b45)] [(.int (Int32.ofNat nn)), (.int (Int32.ofNat (cs.length - oo))), (.int (0 : Int32)), (.ref b45), (.int (Int32.ofNat oo)), (.ref t)]))
  have O49 : Ext Z.heap h45 := own_extKeep O0 K46 all0
  obtain ⟨_, _, ⟨T48, L48, k48, n48⟩, -, X48, ⟨Lc48, hQ48, l48, y48, z48⟩, st48⟩ := Jvm.LawKit.callS X45 hx (y := (⟨"java/lang/Math", "min", "(II)I"⟩ : MethodName)) hown (mvT hZ (hw _ (List.mem_of_getElem? (i := 132) rfl))) (mvT hZ (hw _ (List.mem_of_getElem? (i := 75) rfl))) (mvT hZ (hw _ (List.mem_of_getElem? (i := 72) rfl))) (mvT hZ (hw _ (List.mem_of_getElem? (i := 76) rfl))) (by decide) (backOf (W := 4) (rmMin l Z a0 hw zc fm rt bl lg lv lk ci S_CS hzc S_SF h_fm S_RT E_rt F_bl E_bl F_lg E_lg F_lv A_lv S_CI E_ci [] (Int32.ofNat (cs.length - oo)) (Int32.ofNat nn) h45 O49 (fun q => absurd ((own_ltN (by omega) (by omega)).mp q) (by omega))) hZ (hw _ (List.mem_of_getElem? (i := 76) rfl)) (hw _ (List.mem_of_getElem? (i := 72) rfl)) (by decide) (by decide)) (g := (mkF m 24 #[.val (.ref t), .val (.int (Int32.ofNat oo)), .val (.int (Int32.ofNat (oo + nn))), .val (.int (Int32.ofNat nn)), .val (.ref b45)] [(.int (Int32.ofNat nn)), (.int (Int32.ofNat (cs.length - oo))), (.int (0 : Int32)), (.ref b45), (.int (Int32.ofNat oo)), (.ref t)])) rfl (by rw [hml]; rfl) (argsL := [(.int (Int32.ofNat (cs.length - oo))), (.int (Int32.ofNat nn))]) (rest := [(.int (0 : Int32)), (.ref b45), (.int (Int32.ofNat oo)), (.ref t)]) (lenOf pd_28II29I rfl) rfl (by show 2 * 0 + _ ≤ _; exact Nat.le_of_eq rfl) (hb hby d29_24) (fun _ _ => ⟨rfl, e45, (by decide : 1 + 0 ≤ _), (by decide : 8 + 0 ≤ _)⟩)
  dsimp only [Pt.U, Pt.locs, Pt.cells, Pt.slots] at X48 l48 y48 z48 st48 hQ48
  subst l48 y48 z48
  obtain ⟨rfl, Nq48, e48⟩ := hQ48
  have N50 := Fr.app N44 Nq48
  refine OEnd.of st48 ?_
  show OEnd p e below _ (T48.setTop (mkF m 27 #[.val (.ref t), .val (.int (Int32.ofNat oo)), .val (.int (Int32.ofNat (oo + nn))), .val (.int (Int32.ofNat nn)), .val (.ref b45)] [(.int (Int32.ofNat nn)), (.int (0 : Int32)), (.ref b45), (.int (Int32.ofNat oo)), (.ref t)]))
  obtain ⟨T51, h51, L51, X51, e51, N51, Kq51, V51, st51⟩ := cpA X48 hx hZ hown (hw _ (List.mem_of_getElem? (i := 133) rfl)) (hw _ (List.mem_of_getElem? (i := 136) rfl)) (hw _ (List.mem_of_getElem? (i := 134) rfl)) (hw _ (List.mem_of_getElem? (i := 135) rfl)) e48 (At.keep K46 nin0) V45 (Or.inl ⟨rfl, rfl⟩) (own_nn ho8) (by decide) (own_nn hn8) (by rw [own_ofN (c := 4000) (by omega) (Nat.le_refl _), own_ofN (c := 4000) (by omega) (Nat.le_refl _), own_ofN (c := 4000) (by omega) (Nat.le_refl _)]; omega) (by rw [own_ofN (c := 4000) (by omega) (Nat.le_refl _)]; show 0 + nn ≤ nn; omega) rfl (by rw [own_ofN (c := 4000) (by omega) (Nat.le_refl _)]; show 0 + nn ≤ _; simp) N50 f45 (g := (mkF m 27 #[.val (.ref t), .val (.int (Int32.ofNat oo)), .val (.int (Int32.ofNat (oo + nn))), .val (.int (Int32.ofNat nn)), .val (.ref b45)] [(.int (Int32.ofNat nn)), (.int (0 : Int32)), (.ref b45), (.int (Int32.ofNat oo)), (.ref t)])) rfl (by rw [hml]; rfl) rfl (hb hby d29_27) (by decide) (W := 0) (by show 2 * 0 + _ ≤ _; exact Nat.le_of_eq rfl) (by decide)
  refine OEnd.of st51 ?_
  have Vn51 : Arv Z h51 b45 k45 .byte (Int32.ofNat nn) (BB ((cs.drop oo).take nn)) (.int (0 : Int32)) := by have q := V51; rw [own_cpB hon hl4] at q; exact q
  show OEnd p e below _ (T51.setTop (mkF m 30 #[.val (.ref t), .val (.int (Int32.ofNat oo)), .val (.int (Int32.ofNat (oo + nn))), .val (.int (Int32.ofNat nn)), .val (.ref b45)] []))
  refine OEnd.of (fun tq kq => XS.aload X51.here hx rfl (hb hby d29_30) rfl rfl kq) ?_
  show OEnd p e below _ (T51.setTop (mkF m 32 #[.val (.ref t), .val (.int (Int32.ofNat oo)), .val (.int (Int32.ofNat (oo + nn))), .val (.int (Int32.ofNat nn)), .val (.ref b45)] [(.ref b45)]))
  have K52 : Keep h0 h51 [] := (K46.trans Kq51 (allS (Or.inr (Nat.le_of_eq g45.symm)) all0))
  exact OEnd.retA X51 hx hlk e51 hret rfl rfl (hb hby d29_32) ⟨b45, k45, rfl, N51, K52, Vn51⟩ (by decide) (by decide)
theorem pd_285bBII295bB : parseMethodDescriptor "([BII)[B" = some ⟨[(.array .byte), .int, .int], some (.array .byte)⟩ := by decide +kernel
theorem d28_0 : decode jdk_65_method_132_code 0 = .ok (.iload_n 1, 1) := by decide +kernel
theorem d28_1 : decode jdk_65_method_132_code 1 = .ok (.ifCond .ne 9, 3) := by decide +kernel
theorem d28_4 : decode jdk_65_method_132_code 4 = .ok (.iload_n 2, 1) := by decide +kernel
theorem d28_5 : decode jdk_65_method_132_code 5 = .ok (.aload_n 0, 1) := by decide +kernel
theorem d28_6 : decode jdk_65_method_132_code 6 = .ok (.arraylength, 1) := by decide +kernel
theorem d28_7 : decode jdk_65_method_132_code 7 = .ok (.if_icmp .eq 10, 3) := by decide +kernel
theorem d28_10 : decode jdk_65_method_132_code 10 = .ok (.aload_n 0, 1) := by decide +kernel
theorem d28_11 : decode jdk_65_method_132_code 11 = .ok (.iload_n 1, 1) := by decide +kernel
theorem d28_12 : decode jdk_65_method_132_code 12 = .ok (.iload_n 2, 1) := by decide +kernel
theorem d28_13 : decode jdk_65_method_132_code 13 = .ok (.invokestatic 339, 3) := by decide +kernel
theorem d28_16 : decode jdk_65_method_132_code 16 = .ok (.areturn, 1) := by decide +kernel
abbrev RMrmCr : Room := { frames := 2, cells := 1, slots := 8, locals := 40 }
theorem ef_rmCr (m : MethodId) (t : Addr) (oo : Nat) (nn : Nat) : entryFrame m #[(.ref t), (.int (Int32.ofNat oo)), (.int (Int32.ofNat (oo + nn)))] 3 = mkF m 0 #[.val (.ref t), .val (.int (Int32.ofNat oo)), .val (.int (Int32.ofNat (oo + nn)))] [] := by first | (simp [entryFrame, mkF, argsToLocals, Value.category]; done) | rfl
def QrmCr (Z : State) (zc : Int32) (fm : Value) (rt : Addr) (bl : Addr) (lg : Addr) (lv : Addr) (lk : ClassId) (ci : Addr) (t : Addr) (kb : ClassId) (cs : List Int32) (oo : Nat) (nn : Nat) (h0 : Heap) (v : Option Value) (h : Heap) (L : List Loc) : Prop := ∃ (b : Addr) (kb2 : ClassId), v = some (.ref b) ∧ Fr Z.heap.size L ∧ Keep h0 h [] ∧ Arv Z h b kb2 .byte (Int32.ofNat nn) (BB ((cs.drop oo).take nn)) (.int (0 : Int32))
set_option maxRecDepth 65536 in
set_option maxHeartbeats 40000000 in
theorem rmCr (l : Launch) (Z : State) (a0 : Array Value) (hw : ∀ d ∈ tables_1, d.before a0 Z = true) (zc : Int32) (fm : Value) (rt : Addr) (bl : Addr) (lg : Addr) (lv : Addr) (lk : ClassId) (ci : Addr) (S_CS : Sta Z Z.heap "java/lang/String" "COMPACT_STRINGS" "Z" (.int zc)) (hzc : ¬ zc = 0) (S_SF : Sta Z Z.heap "jdk/internal/util/Preconditions" "SIOOBE_FORMATTER" "Ljava/util/function/BiFunction;" fm) (h_fm : fm.isRef = true) (S_RT : Sta Z Z.heap "java/util/Locale" "ROOT" "Ljava/util/Locale;" (.ref rt)) (E_rt : Exa Z Z.heap rt "java/util/Locale") (F_bl : Fld Z Z.heap rt "java/util/Locale" "baseLocale" "Lsun/util/locale/BaseLocale;" (.ref bl)) (E_bl : Exa Z Z.heap bl "sun/util/locale/BaseLocale") (F_lg : Fld Z Z.heap bl "sun/util/locale/BaseLocale" "language" "Ljava/lang/String;" (.ref lg)) (E_lg : Exa Z Z.heap lg "java/lang/String") (F_lv : Fld Z Z.heap lg "java/lang/String" "value" "[B" (.ref lv)) (A_lv : Arv Z Z.heap lv lk .byte (0 : Int32) [] (.int (0 : Int32))) (S_CI : Sta Z Z.heap "java/lang/CharacterDataLatin1" "instance" "Ljava/lang/CharacterDataLatin1;" (.ref ci)) (E_ci : Exa Z Z.heap ci "java/lang/CharacterDataLatin1") (ws : List Jvm.Cond) (t : Addr) (kb : ClassId) (cs : List Int32) (oo : Nat) (nn : Nat) (h0 : Heap) (O0 : Ext Z.heap h0) (At : Arv Z h0 t kb .byte (Int32.ofNat cs.length) (BB cs) (.int (0 : Int32))) (hcs : ∀ c ∈ cs, ¬ c < 0 ∧ ¬ (255 : Int32) < c) (hl : cs.length ≤ 8) (hon : oo + nn ≤ cs.length) (hne : ¬ (oo = 0 ∧ nn = cs.length)) :
    MetFree l (⟨"java/util/Arrays", "copyOfRange", "([BII)[B"⟩ : MethodName) (head1 (Jvm.Cond.code (⟨"java/util/Arrays", "copyOfRange", "([BII)[B"⟩ : MethodName) jdk_65_method_132_code 3 (some (.array .byte)) :: ws) RMrmCr) (fun a U => a = #[(.ref t), (.int (Int32.ofNat oo)), (.int (Int32.ofNat (oo + nn)))] ∧ Z.Warmed39 U.vm ∧ U.heap = h0) (fun _ _ _ _ _ => True) (fun _ U o U' => ∃ v L, o = .returned v ∧ QrmCr Z zc fm rt bl lg lv lk ci t kb cs oo nn h0 v U'.heap L ∧ FrameEnd U o U' L RMrmCr.cells RMrmCr.slots) := by
  refine MetFree.of_bodySF (plainFor_of_name pn_java_util_Arrays) hisR ?_
  intro p e s m args below meth c s₁ Bd hml0 hP hK
  obtain ⟨rfl, hZ, hh⟩ := hP
  have hx := Bd.exec
  have hby := Bd.bytes
  have hlk : meth.locks = false := BodyLoose.notSynchronized Bd
  have hret := Bd.returns
  have hml : c.maxLocals = 3 := hml0
  have hown : s.vm.findClass "java/util/Arrays" = some m.cls := findClass_of_methodNamed Bd.named
  have hnm := (name_of_methodNamed Bd.named Bd.method).1
  have X0 : Stand p l e RMrmCr s m #[(.ref t), (.int (Int32.ofNat oo)), (.int (Int32.ofNat (oo + nn)))] below meth c s₁ [] 0 0 := Stand.of_body Bd
  have e0 : s₁.heap = h0 := by rw [← hh, Bd.state]; rfl
  have N0 := Fr.nil Z.heap.size
  show OEnd p e below (GN s (QrmCr Z zc fm rt bl lg lv lk ci t kb cs oo nn h0) RMrmCr.cells RMrmCr.slots) _
  refine OEnd.of (fun tq kq => castTop (ef_rmCr m t oo nn) kq) ?_
  have hl4 : cs.length ≤ 4000 := Nat.le_trans hl (by decide)
  refine OEnd.of (fun tq kq => XS.iloadN X0.here hx rfl (hb hby d28_0) rfl kq) ?_
  show OEnd p e below _ (s₁.setTop (mkF m 1 #[.val (.ref t), .val (.int (Int32.ofNat oo)), .val (.int (Int32.ofNat (oo + nn)))] [(.int (Int32.ofNat oo))]))
  by_cases hc53 : (Int32.ofNat oo) = (0 : Int32)
  · refine OEnd.of (fun tq kq => XS.ifNo X0.here hx rfl (hb hby d28_1) rfl ((if0 _ _).trans (teq hc53).2) kq) ?_
    show OEnd p e below _ (s₁.setTop (mkF m 4 #[.val (.ref t), .val (.int (Int32.ofNat oo)), .val (.int (Int32.ofNat (oo + nn)))] []))
    refine OEnd.of (fun tq kq => XS.iloadN X0.here hx rfl (hb hby d28_4) rfl kq) ?_
    show OEnd p e below _ (s₁.setTop (mkF m 5 #[.val (.ref t), .val (.int (Int32.ofNat oo)), .val (.int (Int32.ofNat (oo + nn)))] [(.int (Int32.ofNat (oo + nn)))]))
    refine OEnd.of (fun tq kq => XS.aloadN X0.here hx rfl (hb hby d28_5) rfl rfl kq) ?_
    show OEnd p e below _ (s₁.setTop (mkF m 6 #[.val (.ref t), .val (.int (Int32.ofNat oo)), .val (.int (Int32.ofNat (oo + nn)))] [(.ref t), (.int (Int32.ofNat (oo + nn)))]))
    have Vc54 := At
    obtain ⟨cl54, Ar54, -, S54, N54, -, -⟩ := Vc54
    refine OEnd.of (X0.arraylength hx (by rw [e0]; exact Ar54.1) (State.isArrayOf_alike hZ.alike Ar54.2.1) (g := (mkF m 6 #[.val (.ref t), .val (.int (Int32.ofNat oo)), .val (.int (Int32.ofNat (oo + nn)))] [(.ref t), (.int (Int32.ofNat (oo + nn)))])) rfl rfl (hb hby d28_6)) ?_
    rw [len_of S54 N54]
    show OEnd p e below _ (s₁.setTop (mkF m 7 #[.val (.ref t), .val (.int (Int32.ofNat oo)), .val (.int (Int32.ofNat (oo + nn)))] [(.int (Int32.ofNat cs.length)), (.int (Int32.ofNat (oo + nn)))]))
    refine OEnd.of (fun tq kq => XS.icmpNo X0.here hx rfl (hb hby d28_7) rfl (feq (fun q => hne ⟨(own_eqN (by omega) (b := 0) (by omega)).mp hc53, by have := (own_eqN (by omega) (by omega)).mp q; have := (own_eqN (a := oo) (by omega) (b := 0) (by omega)).mp hc53; omega⟩)).1 kq) ?_
    show OEnd p e below _ (s₁.setTop (mkF m 10 #[.val (.ref t), .val (.int (Int32.ofNat oo)), .val (.int (Int32.ofNat (oo + nn)))] []))
    refine OEnd.of (fun tq kq => XS.aloadN X0.here hx rfl (hb hby d28_10) rfl rfl kq) ?_
    show OEnd p e below _ (s₁.setTop (mkF m 11 #[.val (.ref t), .val (.int (Int32.ofNat oo)), .val (.int (Int32.ofNat (oo + nn)))] [(.ref t)]))
    refine OEnd.of (fun tq kq => XS.iloadN X0.here hx rfl (hb hby d28_11) rfl kq) ?_
    show OEnd p e below _ (s₁.setTop (mkF m 12 #[.val (.ref t), .val (.int (Int32.ofNat oo)), .val (.int (Int32.ofNat (oo + nn)))] [(.int (Int32.ofNat oo)), (.ref t)]))
    refine OEnd.of (fun tq kq => XS.iloadN X0.here hx rfl (hb hby d28_12) rfl kq) ?_
    show OEnd p e below _ (s₁.setTop (mkF m 13 #[.val (.ref t), .val (.int (Int32.ofNat oo)), .val (.int (Int32.ofNat (oo + nn)))] [(.int (Int32.ofNat (oo + nn))), (.int (Int32.ofNat oo)), (.ref t)]))
    obtain ⟨_, _, ⟨T55, L55, k55, n55⟩, -, X55, ⟨Lc55, hQ55, l55, y55, z55⟩, st55⟩ := Jvm.LawKit.callS X0 hx (y := (⟨"java/util/Arrays", "copyOfRangeByte", "([BII)[B"⟩ : MethodName)) hown (mvT hZ (hw _ (List.mem_of_getElem? (i := 126) rfl))) (mvT hZ (hw _ (List.mem_of_getElem? (i := 127) rfl))) (mvT hZ (hw _ (List.mem_of_getElem? (i := 124) rfl))) (mvT hZ (hw _ (List.mem_of_getElem? (i := 128) rfl))) (by decide) (backOf (W := 0) (rmCrb l Z a0 hw zc fm rt bl lg lv lk ci S_CS hzc S_SF h_fm S_RT E_rt F_bl E_bl F_lg E_lg F_lv A_lv S_CI E_ci [] t kb cs oo nn h0 O0 At hcs hl hon) hZ (hw _ (List.mem_of_getElem? (i := 128) rfl)) (hw _ (List.mem_of_getElem? (i := 124) rfl)) (by decide) (by decide)) (g := (mkF m 13 #[.val (.ref t), .val (.int (Int32.ofNat oo)), .val (.int (Int32.ofNat (oo + nn)))] [(.int (Int32.ofNat (oo + nn))), (.int (Int32.ofNat oo)), (.ref t)])) rfl (by rw [hml]; rfl) (argsL := [(.ref t), (.int (Int32.ofNat oo)), (.int (Int32.ofNat (oo + nn)))]) (rest := []) (lenOf pd_285bBII295bB rfl) rfl (by show 2 * 0 + _ ≤ _; exact Nat.le_of_eq rfl) (hb hby d28_13) (fun _ _ => ⟨rfl, e0, (by decide : 0 + 1 ≤ _), (by decide : 0 + 8 ≤ _)⟩)
    dsimp only [Pt.U, Pt.locs, Pt.cells, Pt.slots] at X55 l55 y55 z55 st55 hQ55
    subst l55 y55 z55
    obtain ⟨h55, e55⟩ : ∃ z, T55.heap = z := ⟨_, rfl⟩
    rw [e55] at hQ55
    obtain ⟨b_56, kb2_57, rfl, Nq55, Kq55, Ab_58⟩ := hQ55
    have N59 := Fr.app N0 Nq55
    refine OEnd.of st55 ?_
    show OEnd p e below _ (T55.setTop (mkF m 16 #[.val (.ref t), .val (.int (Int32.ofNat oo)), .val (.int (Int32.ofNat (oo + nn)))] [(.ref b_56)]))
    have K60 : Keep h0 h55 [] := ((Keep.refl h0 []).trans Kq55 all0)
    exact OEnd.retA X55 hx hlk e55 hret rfl rfl (hb hby d28_16) ⟨b_56, kb2_57, rfl, N59, K60, Ab_58⟩ (by decide) (by decide)
  · refine OEnd.of (fun tq kq => XS.ifYes X0.here hx rfl (pc0 := 1) (pc' := 10) rfl (hb hby d28_1) rfl ((if0 _ _).trans (feq hc53).2) (by decide) (by decide) kq) ?_
    show OEnd p e below _ (s₁.setTop (mkF m 10 #[.val (.ref t), .val (.int (Int32.ofNat oo)), .val (.int (Int32.ofNat (oo + nn)))] []))
    refine OEnd.of (fun tq kq => XS.aloadN X0.here hx rfl (hb hby d28_10) rfl rfl kq) ?_
    show OEnd p e below _ (s₁.setTop (mkF m 11 #[.val (.ref t), .val (.int (Int32.ofNat oo)), .val (.int (Int32.ofNat (oo + nn)))] [(.ref t)]))
    refine OEnd.of (fun tq kq => XS.iloadN X0.here hx rfl (hb hby d28_11) rfl kq) ?_
    show OEnd p e below _ (s₁.setTop (mkF m 12 #[.val (.ref t), .val (.int (Int32.ofNat oo)), .val (.int (Int32.ofNat (oo + nn)))] [(.int (Int32.ofNat oo)), (.ref t)]))
    refine OEnd.of (fun tq kq => XS.iloadN X0.here hx rfl (hb hby d28_12) rfl kq) ?_
    show OEnd p e below _ (s₁.setTop (mkF m 13 #[.val (.ref t), .val (.int (Int32.ofNat oo)), .val (.int (Int32.ofNat (oo + nn)))] [(.int (Int32.ofNat (oo + nn))), (.int (Int32.ofNat oo)), (.ref t)]))
    obtain ⟨_, _, ⟨T61, L61, k61, n61⟩, -, X61, ⟨Lc61, hQ61, l61, y61, z61⟩, st61⟩ := Jvm.LawKit.callS X0 hx (y := (⟨"java/util/Arrays", "copyOfRangeByte", "([BII)[B"⟩ : MethodName)) hown (mvT hZ (hw _ (List.mem_of_getElem? (i := 126) rfl))) (mvT hZ (hw _ (List.mem_of_getElem? (i := 127) rfl))) (mvT hZ (hw _ (List.mem_of_getElem? (i := 124) rfl))) (mvT hZ (hw _ (List.mem_of_getElem? (i := 128) rfl))) (by decide) (backOf (W := 0) (rmCrb l Z a0 hw zc fm rt bl lg lv lk ci S_CS hzc S_SF h_fm S_RT E_rt F_bl E_bl F_lg E_lg F_lv A_lv S_CI E_ci [] t kb cs oo nn h0 O0 At hcs hl hon) hZ (hw _ (List.mem_of_getElem? (i := 128) rfl)) (hw _ (List.mem_of_getElem? (i := 124) rfl)) (by decide) (by decide)) (g := (mkF m 13 #[.val (.ref t), .val (.int (Int32.ofNat oo)), .val (.int (Int32.ofNat (oo + nn)))] [(.int (Int32.ofNat (oo + nn))), (.int (Int32.ofNat oo)), (.ref t)])) rfl (by rw [hml]; rfl) (argsL := [(.ref t), (.int (Int32.ofNat oo)), (.int (Int32.ofNat (oo + nn)))]) (rest := []) (lenOf pd_285bBII295bB rfl) rfl (by show 2 * 0 + _ ≤ _; exact Nat.le_of_eq rfl) (hb hby d28_13) (fun _ _ => ⟨rfl, e0, (by decide : 0 + 1 ≤ _), (by decide : 0 + 8 ≤ _)⟩)
    dsimp only [Pt.U, Pt.locs, Pt.cells, Pt.slots] at X61 l61 y61 z61 st61 hQ61
    subst l61 y61 z61
    obtain ⟨h61, e61⟩ : ∃ z, T61.heap = z := ⟨_, rfl⟩
    rw [e61] at hQ61
    obtain ⟨b_62, kb2_63, rfl, Nq61, Kq61, Ab_64⟩ := hQ61
    have N65 := Fr.app N0 Nq61
    refine OEnd.of st61 ?_
    show OEnd p e below _ (T61.setTop (mkF m 16 #[.val (.ref t), .val (.int (Int32.ofNat oo)), .val (.int (Int32.ofNat (oo + nn)))] [(.ref b_62)]))
    have K66 : Keep h0 h61 [] := ((Keep.refl h0 []).trans Kq61 all0)
    exact OEnd.retA X61 hx hlk e61 hret rfl rfl (hb hby d28_16) ⟨b_62, kb2_63, rfl, N65, K66, Ab_64⟩ (by decide) (by decide)
theorem d31_0 : decode jdk_42_method_151_code 0 = .ok (.aload_n 0, 1) := by decide +kernel
theorem d31_1 : decode jdk_42_method_151_code 1 = .ok (.invokespecial 1, 3) := by decide +kernel
theorem d31_4 : decode jdk_42_method_151_code 4 = .ok (.aload_n 0, 1) := by decide +kernel
theorem d31_5 : decode jdk_42_method_151_code 5 = .ok (.aload_n 1, 1) := by decide +kernel
theorem d31_6 : decode jdk_42_method_151_code 6 = .ok (.putfield 9, 3) := by decide +kernel
theorem d31_9 : decode jdk_42_method_151_code 9 = .ok (.aload_n 0, 1) := by decide +kernel
theorem d31_10 : decode jdk_42_method_151_code 10 = .ok (.iload_n 2, 1) := by decide +kernel
theorem d31_11 : decode jdk_42_method_151_code 11 = .ok (.putfield 15, 3) := by decide +kernel
theorem d31_14 : decode jdk_42_method_151_code 14 = .ok (.return_, 1) := by decide +kernel
abbrev RMrmIBB : Room := { frames := 1, cells := 0, slots := 0, locals := 12 }
theorem ef_rmIBB (m : MethodId) (a1 : Addr) (a2 : Addr) : entryFrame m #[(.ref a1), (.ref a2), (.int (0 : Int32))] 3 = mkF m 0 #[.val (.ref a1), .val (.ref a2), .val (.int (0 : Int32))] [] := by first | (simp [entryFrame, mkF, argsToLocals, Value.category]; done) | rfl
def QrmIBB (Z : State) (zc : Int32) (fm : Value) (rt : Addr) (bl : Addr) (lg : Addr) (lv : Addr) (lk : ClassId) (ci : Addr) (a1 : Addr) (a2 : Addr) (h0 : Heap) (v : Option Value) (h : Heap) (L : List Loc) : Prop := v = none ∧ Fr Z.heap.size L ∧ Keep h0 h [a1] ∧ Exa Z h a1 "java/lang/String" ∧ Fld Z h a1 "java/lang/String" "value" "[B" (.ref a2) ∧ Fld Z h a1 "java/lang/String" "coder" "B" (.int (0 : Int32))
set_option maxRecDepth 65536 in
set_option maxHeartbeats 40000000 in
theorem rmIBB (l : Launch) (Z : State) (a0 : Array Value) (hw : ∀ d ∈ tables_1, d.before a0 Z = true) (zc : Int32) (fm : Value) (rt : Addr) (bl : Addr) (lg : Addr) (lv : Addr) (lk : ClassId) (ci : Addr) (S_CS : Sta Z Z.heap "java/lang/String" "COMPACT_STRINGS" "Z" (.int zc)) (hzc : ¬ zc = 0) (S_SF : Sta Z Z.heap "jdk/internal/util/Preconditions" "SIOOBE_FORMATTER" "Ljava/util/function/BiFunction;" fm) (h_fm : fm.isRef = true) (S_RT : Sta Z Z.heap "java/util/Locale" "ROOT" "Ljava/util/Locale;" (.ref rt)) (E_rt : Exa Z Z.heap rt "java/util/Locale") (F_bl : Fld Z Z.heap rt "java/util/Locale" "baseLocale" "Lsun/util/locale/BaseLocale;" (.ref bl)) (E_bl : Exa Z Z.heap bl "sun/util/locale/BaseLocale") (F_lg : Fld Z Z.heap bl "sun/util/locale/BaseLocale" "language" "Ljava/lang/String;" (.ref lg)) (E_lg : Exa Z Z.heap lg "java/lang/String") (F_lv : Fld Z Z.heap lg "java/lang/String" "value" "[B" (.ref lv)) (A_lv : Arv Z Z.heap lv lk .byte (0 : Int32) [] (.int (0 : Int32))) (S_CI : Sta Z Z.heap "java/lang/CharacterDataLatin1" "instance" "Ljava/lang/CharacterDataLatin1;" (.ref ci)) (E_ci : Exa Z Z.heap ci "java/lang/CharacterDataLatin1") (ws : List Jvm.Cond) (a1 : Addr) (a2 : Addr) (h0 : Heap) (O0 : Ext Z.heap h0) (E1 : Exa Z h0 a1 "java/lang/String") (Fv : Fld Z h0 a1 "java/lang/String" "value" "[B" .null) (Fc : Fld Z h0 a1 "java/lang/String" "coder" "B" (.int (0 : Int32))) (g1 : Z.heap.size ≤ a1) :
    MetFree l (⟨"java/lang/String", "<init>", "([BB)V"⟩ : MethodName) (head1 (Jvm.Cond.code (⟨"java/lang/String", "<init>", "([BB)V"⟩ : MethodName) jdk_42_method_151_code 3 none :: ws) RMrmIBB) (fun a U => a = #[(.ref a1), (.ref a2), (.int (0 : Int32))] ∧ Z.Warmed39 U.vm ∧ U.heap = h0) (fun _ _ _ _ _ => True) (fun _ U o U' => ∃ v L, o = .returned v ∧ QrmIBB Z zc fm rt bl lg lv lk ci a1 a2 h0 v U'.heap L ∧ FrameEnd U o U' L RMrmIBB.cells RMrmIBB.slots) := by
  refine MetFree.of_bodySF (plainFor_of_name pn_java_lang_String) hisR ?_
  intro p e s m args below meth c s₁ Bd hml0 hP hK
  obtain ⟨rfl, hZ, hh⟩ := hP
  have hx := Bd.exec
  have hby := Bd.bytes
  have hlk : meth.locks = false := BodyLoose.notSynchronized Bd
  have hret := Bd.returns
  have hml : c.maxLocals = 3 := hml0
  have hown : s.vm.findClass "java/lang/String" = some m.cls := findClass_of_methodNamed Bd.named
  have hnm := (name_of_methodNamed Bd.named Bd.method).1
  have X0 : Stand p l e RMrmIBB s m #[(.ref a1), (.ref a2), (.int (0 : Int32))] below meth c s₁ [] 0 0 := Stand.of_body Bd
  have e0 : s₁.heap = h0 := by rw [← hh, Bd.state]; rfl
  have N0 := Fr.nil Z.heap.size
  show OEnd p e below (GN s (QrmIBB Z zc fm rt bl lg lv lk ci a1 a2 h0) RMrmIBB.cells RMrmIBB.slots) _
  refine OEnd.of (fun tq kq => castTop (ef_rmIBB m a1 a2) kq) ?_
  refine OEnd.of (fun tq kq => XS.aloadN X0.here hx rfl (hb hby d31_0) rfl rfl kq) ?_
  show OEnd p e below _ (s₁.setTop (mkF m 1 #[.val (.ref a1), .val (.ref a2), .val (.int (0 : Int32))] [(.ref a1)]))
  obtain ⟨T67, X67, e67, st67⟩ := initO X0 hx hZ hown (hw _ (List.mem_of_getElem? (i := 15) rfl)) (hw _ (List.mem_of_getElem? (i := 16) rfl)) (hw _ (List.mem_of_getElem? (i := 17) rfl)) e0 (g := (mkF m 1 #[.val (.ref a1), .val (.ref a2), .val (.int (0 : Int32))] [(.ref a1)])) rfl (by rw [hml]; rfl) rfl (hb hby d31_1) (by decide) (W := 0) (by show 2 * 0 + _ ≤ _; exact Nat.le_of_eq rfl) (by decide)
  refine OEnd.of st67 ?_
  show OEnd p e below _ (T67.setTop (mkF m 4 #[.val (.ref a1), .val (.ref a2), .val (.int (0 : Int32))] []))
  refine OEnd.of (fun tq kq => XS.aloadN X67.here hx rfl (hb hby d31_4) rfl rfl kq) ?_
  show OEnd p e below _ (T67.setTop (mkF m 5 #[.val (.ref a1), .val (.ref a2), .val (.int (0 : Int32))] [(.ref a1)]))
  refine OEnd.of (fun tq kq => XS.aloadN X67.here hx rfl (hb hby d31_5) rfl rfl kq) ?_
  show OEnd p e below _ (T67.setTop (mkF m 6 #[.val (.ref a1), .val (.ref a2), .val (.int (0 : Int32))] [(.ref a2), (.ref a1)]))
  obtain ⟨T68, h68, X68, e68, W68, st68⟩ := putF X67 hx hZ hown (host := "") (Or.inl (hw _ (List.mem_of_getElem? (i := 32) rfl))) Via.refl e67 Fv E1 (Or.inr ⟨(hw _ (List.mem_of_getElem? (i := 33) rfl)), rfl, hnm⟩) (hw _ (List.mem_of_getElem? (i := 6) rfl)) (ty := (.array .byte)) (by decide) rfl rfl (g := (mkF m 6 #[.val (.ref a1), .val (.ref a2), .val (.int (0 : Int32))] [(.ref a2), (.ref a1)])) rfl rfl (hb hby d31_6)
  refine OEnd.of st68 ?_
  have F69 : Fld Z h68 a1 "java/lang/String" "value" "[B" (.ref a2) := Fld.same W68 Fv
  have E70 : Exa Z h68 a1 "java/lang/String" := E1.wr W68
  have F71 : Fld Z h68 a1 "java/lang/String" "coder" "B" (.int (0 : Int32)) := Fc.other W68 (Or.inr (slot_ne (Or.inr (hw _ (List.mem_of_getElem? (i := 31) rfl))) (Or.inr (hw _ (List.mem_of_getElem? (i := 33) rfl))) (by decide) (t := .byte) (t' := (.array .byte)) (by decide) (by decide)))
  have N72 := Fr.snoc X68 N0 g1
  show OEnd p e below _ (T68.setTop (mkF m 9 #[.val (.ref a1), .val (.ref a2), .val (.int (0 : Int32))] []))
  refine OEnd.of (fun tq kq => XS.aloadN X68.here hx rfl (hb hby d31_9) rfl rfl kq) ?_
  show OEnd p e below _ (T68.setTop (mkF m 10 #[.val (.ref a1), .val (.ref a2), .val (.int (0 : Int32))] [(.ref a1)]))
  refine OEnd.of (fun tq kq => XS.iloadN X68.here hx rfl (hb hby d31_10) rfl kq) ?_
  show OEnd p e below _ (T68.setTop (mkF m 11 #[.val (.ref a1), .val (.ref a2), .val (.int (0 : Int32))] [(.int (0 : Int32)), (.ref a1)]))
  obtain ⟨T73, h73, X73, e73, W73, st73⟩ := putFN X68 hx hZ hown (hw _ (List.mem_of_getElem? (i := 30) rfl)) Via.refl e68 F71 E70 (Or.inr ⟨(hw _ (List.mem_of_getElem? (i := 31) rfl)), rfl, hnm⟩) (hw _ (List.mem_of_getElem? (i := 6) rfl)) (ty := .byte) (v' := (.int (0 : Int32))) (by decide) rfl (by decide) (g := (mkF m 11 #[.val (.ref a1), .val (.ref a2), .val (.int (0 : Int32))] [(.int (0 : Int32)), (.ref a1)])) rfl rfl (hb hby d31_11)
  refine OEnd.of st73 ?_
  have F74 : Fld Z h73 a1 "java/lang/String" "coder" "B" (.int (0 : Int32)) := Fld.same W73 F71
  have E75 : Exa Z h73 a1 "java/lang/String" := E70.wr W73
  have F76 : Fld Z h73 a1 "java/lang/String" "value" "[B" (.ref a2) := F69.other W73 (Or.inr (slot_ne (Or.inr (hw _ (List.mem_of_getElem? (i := 33) rfl))) (Or.inr (hw _ (List.mem_of_getElem? (i := 31) rfl))) (by decide) (t := (.array .byte)) (t' := .byte) (by decide) (by decide)))
  have N77 := Fr.snoc X73 N72 g1
  show OEnd p e below _ (T73.setTop (mkF m 14 #[.val (.ref a1), .val (.ref a2), .val (.int (0 : Int32))] []))
  have K78 : Keep h0 h73 [a1] := (((Keep.refl h0 [a1]).wr W68 (Or.inl (List.mem_of_getElem? (i := 0) rfl))).wr W73 (Or.inl (List.mem_of_getElem? (i := 0) rfl)))
  exact OEnd.retV X73 hx hlk e73 hret (hb hby d31_14) ⟨rfl, N77, K78, E75, F76, F74⟩ (by decide) (by decide)
theorem own_lit_ : (∀ c ∈ "".toList, c.toNat < 256) ∧ "".toList.map (fun c => Value.int (Jvm.Lit.byteI c.toNat.toUInt16)) = [] := ⟨by decide, by decide +kernel⟩
theorem pd_285bBB29V : parseMethodDescriptor "([BB)V" = some ⟨[(.array .byte), .byte], none⟩ := by decide +kernel
theorem d22_0 : decode jdk_43_method_47_code 0 = .ok (.iload_n 2, 1) := by decide +kernel
theorem d22_1 : decode jdk_43_method_47_code 1 = .ok (.ifCond .ne 6, 3) := by decide +kernel
theorem d22_4 : decode jdk_43_method_47_code 4 = .ok (.ldc 151, 2) := by decide +kernel
theorem d22_6 : decode jdk_43_method_47_code 6 = .ok (.areturn, 1) := by decide +kernel
theorem d22_7 : decode jdk_43_method_47_code 7 = .ok (.new 1, 3) := by decide +kernel
theorem d22_10 : decode jdk_43_method_47_code 10 = .ok (.dup, 1) := by decide +kernel
theorem d22_11 : decode jdk_43_method_47_code 11 = .ok (.aload_n 0, 1) := by decide +kernel
theorem d22_12 : decode jdk_43_method_47_code 12 = .ok (.iload_n 1, 1) := by decide +kernel
theorem d22_13 : decode jdk_43_method_47_code 13 = .ok (.iload_n 1, 1) := by decide +kernel
theorem d22_14 : decode jdk_43_method_47_code 14 = .ok (.iload_n 2, 1) := by decide +kernel
theorem d22_15 : decode jdk_43_method_47_code 15 = .ok (.iadd, 1) := by decide +kernel
theorem d22_16 : decode jdk_43_method_47_code 16 = .ok (.invokestatic 232, 3) := by decide +kernel
theorem d22_19 : decode jdk_43_method_47_code 19 = .ok (.iconst 0, 1) := by decide +kernel
theorem d22_20 : decode jdk_43_method_47_code 20 = .ok (.invokespecial 112, 3) := by decide +kernel
theorem d22_23 : decode jdk_43_method_47_code 23 = .ok (.areturn, 1) := by decide +kernel
abbrev RMrmNst : Room := { frames := 3, cells := 2, slots := 12, locals := 56 }
theorem ef_rmNst (m : MethodId) (t : Addr) (oo : Nat) (nn : Nat) : entryFrame m #[(.ref t), (.int (Int32.ofNat oo)), (.int (Int32.ofNat nn))] 3 = mkF m 0 #[.val (.ref t), .val (.int (Int32.ofNat oo)), .val (.int (Int32.ofNat nn))] [] := by first | (simp [entryFrame, mkF, argsToLocals, Value.category]; done) | rfl
def QrmNst (Z : State) (zc : Int32) (fm : Value) (rt : Addr) (bl : Addr) (lg : Addr) (lv : Addr) (lk : ClassId) (ci : Addr) (t : Addr) (kb : ClassId) (cs : List Int32) (oo : Nat) (nn : Nat) (h0 : Heap) (v : Option Value) (h : Heap) (L : List Loc) : Prop := ∃ (r : Addr), v = some (.ref r) ∧ Fr Z.heap.size L ∧ Keep h0 h [] ∧ IsStr Z h r ((cs.drop oo).take nn)
set_option maxRecDepth 65536 in
set_option maxHeartbeats 40000000 in
theorem rmNst (l : Launch) (Z : State) (a0 : Array Value) (hw : ∀ d ∈ tables_1, d.before a0 Z = true) (zc : Int32) (fm : Value) (rt : Addr) (bl : Addr) (lg : Addr) (lv : Addr) (lk : ClassId) (ci : Addr) (S_CS : Sta Z Z.heap "java/lang/String" "COMPACT_STRINGS" "Z" (.int zc)) (hzc : ¬ zc = 0) (S_SF : Sta Z Z.heap "jdk/internal/util/Preconditions" "SIOOBE_FORMATTER" "Ljava/util/function/BiFunction;" fm) (h_fm : fm.isRef = true) (S_RT : Sta Z Z.heap "java/util/Locale" "ROOT" "Ljava/util/Locale;" (.ref rt)) (E_rt : Exa Z Z.heap rt "java/util/Locale") (F_bl : Fld Z Z.heap rt "java/util/Locale" "baseLocale" "Lsun/util/locale/BaseLocale;" (.ref bl)) (E_bl : Exa Z Z.heap bl "sun/util/locale/BaseLocale") (F_lg : Fld Z Z.heap bl "sun/util/locale/BaseLocale" "language" "Ljava/lang/String;" (.ref lg)) (E_lg : Exa Z Z.heap lg "java/lang/String") (F_lv : Fld Z Z.heap lg "java/lang/String" "value" "[B" (.ref lv)) (A_lv : Arv Z Z.heap lv lk .byte (0 : Int32) [] (.int (0 : Int32))) (S_CI : Sta Z Z.heap "java/lang/CharacterDataLatin1" "instance" "Ljava/lang/CharacterDataLatin1;" (.ref ci)) (E_ci : Exa Z Z.heap ci "java/lang/CharacterDataLatin1") (hEL : EW Z a0 EL) (ws : List Jvm.Cond) (t : Addr) (kb : ClassId) (cs : List Int32) (oo : Nat) (nn : Nat) (h0 : Heap) (O0 : Ext Z.heap h0) (At : Arv Z h0 t kb .byte (Int32.ofNat cs.length) (BB cs) (.int (0 : Int32))) (hcs : ∀ c ∈ cs, ¬ c < 0 ∧ ¬ (255 : Int32) < c) (hl : cs.length ≤ 8) (hon : oo + nn ≤ cs.length) (hne : ¬ (oo = 0 ∧ nn = cs.length)) :
    MetFree l (⟨"java/lang/StringLatin1", "newString", "([BII)Ljava/lang/String;"⟩ : MethodName) (head1 (Jvm.Cond.code (⟨"java/lang/StringLatin1", "newString", "([BII)Ljava/lang/String;"⟩ : MethodName) jdk_43_method_47_code 3 (some (.object "java/lang/String")) :: ws) RMrmNst) (fun a U => a = #[(.ref t), (.int (Int32.ofNat oo)), (.int (Int32.ofNat nn))] ∧ Z.Warmed39 U.vm ∧ U.heap = h0 ∧ CHv Z EL U.vm h0) (fun _ _ _ _ _ => True) (fun _ U o U' => ∃ v L, o = .returned v ∧ QrmNst Z zc fm rt bl lg lv lk ci t kb cs oo nn h0 v U'.heap L ∧ CHr Z EL U.vm U.heap U'.vm U'.heap ∧ ReturnedEndW U o U' L RMrmNst.cells RMrmNst.slots) := by
  refine MetFree.of_bodySF (plainFor_of_name pn_java_lang_StringLatin1) hisR ?_
  intro p e s m args below meth c s₁ Bd hml0 hP hK
  obtain ⟨rfl, hZ, hh, hC0⟩ := hP
  have hx := Bd.exec
  have hby := Bd.bytes
  have hlk : meth.locks = false := BodyLoose.notSynchronized Bd
  have hret := Bd.returns
  have hml : c.maxLocals = 3 := hml0
  have hown : s.vm.findClass "java/lang/StringLatin1" = some m.cls := findClass_of_methodNamed Bd.named
  have hnm := (name_of_methodNamed Bd.named Bd.method).1
  have X0 : Stand p l e RMrmNst (s.setVm s.vm) m #[(.ref t), (.int (Int32.ofNat oo)), (.int (Int32.ofNat nn))] below meth c s₁ [] 0 0 := Stand.of_body Bd
  have e0 : s₁.heap = h0 := by rw [← hh, Bd.state]; rfl
  have N0 := Fr.nil Z.heap.size
  have hZ : Z.Warmed39 (s.setVm s.vm).vm := hZ
  have hS0 : s.Since s.vm h0.size := (State.WarmedH.refl s).since _
  have hk0 : h0.size ≤ h0.size := Nat.le_refl _
  have HR0 : CHr Z EL s.vm h0 s.vm h0 := CHr.refl hC0
  have hwS : ∀ d ∈ Bundle.stringAtoms, d.before a0 Z = true := fun d hd => hw d (own_strAtoms d hd)
  show OEnd p e below (GW s Z EL (QrmNst Z zc fm rt bl lg lv lk ci t kb cs oo nn h0) RMrmNst.cells RMrmNst.slots) _
  refine OEnd.of (fun tq kq => castTop (ef_rmNst m t oo nn) kq) ?_
  have hl4 : cs.length ≤ 4000 := Nat.le_trans hl (by decide)
  refine OEnd.of (fun tq kq => XS.iloadN X0.here hx rfl (hb hby d22_0) rfl kq) ?_
  show OEnd p e below _ (s₁.setTop (mkF m 1 #[.val (.ref t), .val (.int (Int32.ofNat oo)), .val (.int (Int32.ofNat nn))] [(.int (Int32.ofNat nn))]))
  by_cases hc79 : (Int32.ofNat nn) = (0 : Int32)
  · refine OEnd.of (fun tq kq => XS.ifNo X0.here hx rfl (hb hby d22_1) rfl ((if0 _ _).trans (teq hc79).2) kq) ?_
    show OEnd p e below _ (s₁.setTop (mkF m 4 #[.val (.ref t), .val (.int (Int32.ofNat oo)), .val (.int (Int32.ofNat nn))] []))
    obtain ⟨ba80, T80, h80, k180, bb80, kb80, X80, e80, E80, S80, hk80, hZ80, hown80, Ex80, Cd80, Vl80, Ar80, lta80, ltb80, C80, Lt80, Sn80, st80⟩ := ldcCH X0 hx hZ hown (hw _ (List.mem_of_getElem? (i := 96) rfl)) hwS e0 hS0 hk0 hEL (List.mem_of_getElem? (i := 0) rfl) HR0.1 (vs := []) (z := (0 : Int32)) own_lit_ (by decide) (by decide) (g := (mkF m 4 #[.val (.ref t), .val (.int (Int32.ofNat oo)), .val (.int (Int32.ofNat nn))] [])) rfl (hb hby d22_4) (n := 0) (by decide) (by decide) (by decide) (by decide)
    refine OEnd.of st80 ?_
    have CR81 : CHr Z EL s.vm h0 T80.vm h80 := C80
    have HR82 : CHr Z EL s.vm h0 T80.vm h80 := HR0.trans CR81
    show OEnd p e below _ (T80.setTop (mkF m 6 #[.val (.ref t), .val (.int (Int32.ofNat oo)), .val (.int (Int32.ofNat nn))] [(.ref ba80)]))
    have Sz : IsStr Z h80 ba80 [] := ⟨Ex80, Cd80, ⟨bb80, kb80, Vl80, Ar80⟩, (fun _ q => nomatch q), by decide⟩
    have Sy : IsStr Z h80 ba80 ((cs.drop oo).take nn) := by rw [own_take0 ((own_eqN (by omega) (b := 0) (by omega)).mp hc79)]; exact Sz
    have K83 : Keep h0 h80 [] := ((Keep.refl h0 []).ext E80)
    exact OEnd.retAW X80 hx hlk e80 hh S80 hk80 hEL hZ80 HR82 hret rfl rfl (hb hby d22_6) ⟨ba80, rfl, N0, K83, Sy⟩ (by decide) (by decide)
  · refine OEnd.of (fun tq kq => XS.ifYes X0.here hx rfl (pc0 := 1) (pc' := 7) rfl (hb hby d22_1) rfl ((if0 _ _).trans (feq hc79).2) (by decide) (by decide) kq) ?_
    show OEnd p e below _ (s₁.setTop (mkF m 7 #[.val (.ref t), .val (.int (Int32.ofNat oo)), .val (.int (Int32.ofNat nn))] []))
    obtain ⟨T84, h84, X84, e84, E84, A84, D84, -, st84⟩ := newO X0 hx hZ hown (hw _ (List.mem_of_getElem? (i := 121) rfl)) (hw _ (List.mem_of_getElem? (i := 6) rfl)) (hw _ (List.mem_of_getElem? (i := 7) rfl)) e0 (g := (mkF m 7 #[.val (.ref t), .val (.int (Int32.ofNat oo)), .val (.int (Int32.ofNat nn))] [])) rfl (hb hby d22_7) (by decide) (by decide)
    obtain ⟨b84, g84⟩ : ∃ z, z = h0.size := ⟨_, rfl⟩
    rw [← g84] at A84 D84 st84
    refine OEnd.of st84 ?_
    have f84 : Z.heap.size ≤ b84 := Nat.le_trans O0.1 (Nat.le_of_eq g84.symm)
    have F85 : Fld Z h84 b84 "java/lang/String" "coder" "B" (.int (0 : Int32)) := D84 (Or.inr (hw _ (List.mem_of_getElem? (i := 31) rfl))) (ty := .byte) (by decide)
    have F86 : Fld Z h84 b84 "java/lang/String" "value" "[B" .null := D84 (Or.inr (hw _ (List.mem_of_getElem? (i := 33) rfl))) (ty := (.array .byte)) (by decide)
    have CR87 : CHr Z EL s.vm h0 s.vm h84 := CHr.ext E84 HR0.1
    have HR88 : CHr Z EL s.vm h0 s.vm h84 := HR0.trans CR87
    show OEnd p e below _ (T84.setTop (mkF m 10 #[.val (.ref t), .val (.int (Int32.ofNat oo)), .val (.int (Int32.ofNat nn))] [(.ref b84)]))
    refine OEnd.of (fun tq kq => XS.dup X84.here hx rfl (hb hby d22_10) rfl rfl kq) ?_
    show OEnd p e below _ (T84.setTop (mkF m 11 #[.val (.ref t), .val (.int (Int32.ofNat oo)), .val (.int (Int32.ofNat nn))] [(.ref b84), (.ref b84)]))
    refine OEnd.of (fun tq kq => XS.aloadN X84.here hx rfl (hb hby d22_11) rfl rfl kq) ?_
    show OEnd p e below _ (T84.setTop (mkF m 12 #[.val (.ref t), .val (.int (Int32.ofNat oo)), .val (.int (Int32.ofNat nn))] [(.ref t), (.ref b84), (.ref b84)]))
    refine OEnd.of (fun tq kq => XS.iloadN X84.here hx rfl (hb hby d22_12) rfl kq) ?_
    show OEnd p e below _ (T84.setTop (mkF m 13 #[.val (.ref t), .val (.int (Int32.ofNat oo)), .val (.int (Int32.ofNat nn))] [(.int (Int32.ofNat oo)), (.ref t), (.ref b84), (.ref b84)]))
    refine OEnd.of (fun tq kq => XS.iloadN X84.here hx rfl (hb hby d22_13) rfl kq) ?_
    show OEnd p e below _ (T84.setTop (mkF m 14 #[.val (.ref t), .val (.int (Int32.ofNat oo)), .val (.int (Int32.ofNat nn))] [(.int (Int32.ofNat oo)), (.int (Int32.ofNat oo)), (.ref t), (.ref b84), (.ref b84)]))
    refine OEnd.of (fun tq kq => XS.iloadN X84.here hx rfl (hb hby d22_14) rfl kq) ?_
    show OEnd p e below _ (T84.setTop (mkF m 15 #[.val (.ref t), .val (.int (Int32.ofNat oo)), .val (.int (Int32.ofNat nn))] [(.int (Int32.ofNat nn)), (.int (Int32.ofNat oo)), (.int (Int32.ofNat oo)), (.ref t), (.ref b84), (.ref b84)]))
    refine OEnd.of (fun tq kq => XS.iadd X84.here hx rfl (hb hby d22_15) rfl kq) ?_
    show OEnd p e below _ (T84.setTop (mkF m 16 #[.val (.ref t), .val (.int (Int32.ofNat oo)), .val (.int (Int32.ofNat nn))] [(.int ((Int32.ofNat oo) + (Int32.ofNat nn))), (.int (Int32.ofNat oo)), (.ref t), (.ref b84), (.ref b84)]))
    rw [show ((Int32.ofNat oo) + (Int32.ofNat nn)) = (Int32.ofNat (oo + nn)) from own_add oo nn]
    show OEnd p e below _ (T84.setTop (mkF m 16 #[.val (.ref t), .val (.int (Int32.ofNat oo)), .val (.int (Int32.ofNat nn))] [(.int (Int32.ofNat (oo + nn))), (.int (Int32.ofNat oo)), (.ref t), (.ref b84), (.ref b84)]))
    have K90 : Keep h0 h84 [] := ((Keep.refl h0 []).ext E84)
    have O91 : Ext Z.heap h84 := own_extKeep O0 K90 all0
    obtain ⟨_, _, ⟨T89, L89, k89, n89⟩, -, X89, ⟨Lc89, hQ89, l89, y89, z89⟩, st89⟩ := Jvm.LawKit.callS X84 hx (y := (⟨"java/util/Arrays", "copyOfRange", "([BII)[B"⟩ : MethodName)) hown (mvT hZ (hw _ (List.mem_of_getElem? (i := 122) rfl))) (mvT hZ (hw _ (List.mem_of_getElem? (i := 123) rfl))) (mvT hZ (hw _ (List.mem_of_getElem? (i := 124) rfl))) (mvT hZ (hw _ (List.mem_of_getElem? (i := 125) rfl))) (by decide) (backOf (W := 2) (rmCr l Z a0 hw zc fm rt bl lg lv lk ci S_CS hzc S_SF h_fm S_RT E_rt F_bl E_bl F_lg E_lg F_lv A_lv S_CI E_ci [] t kb cs oo nn h84 O91 (At.keep K90 nin0) hcs hl hon hne) hZ (hw _ (List.mem_of_getElem? (i := 125) rfl)) (hw _ (List.mem_of_getElem? (i := 124) rfl)) (by decide) (by decide)) (g := (mkF m 16 #[.val (.ref t), .val (.int (Int32.ofNat oo)), .val (.int (Int32.ofNat nn))] [(.int (Int32.ofNat (oo + nn))), (.int (Int32.ofNat oo)), (.ref t), (.ref b84), (.ref b84)])) rfl (by rw [hml]; rfl) (argsL := [(.ref t), (.int (Int32.ofNat oo)), (.int (Int32.ofNat (oo + nn)))]) (rest := [(.ref b84), (.ref b84)]) (lenOf pd_285bBII295bB rfl) rfl (by show 2 * 0 + _ ≤ _; exact Nat.le_of_eq rfl) (hb hby d22_16) (fun _ _ => ⟨rfl, e84, (by decide : 1 + 1 ≤ _), (by decide : 4 + 8 ≤ _)⟩)
    dsimp only [Pt.U, Pt.locs, Pt.cells, Pt.slots] at X89 l89 y89 z89 st89 hQ89
    subst l89 y89 z89
    obtain ⟨h89, e89⟩ : ∃ z, T89.heap = z := ⟨_, rfl⟩
    rw [e89] at hQ89
    obtain ⟨b_92, kb2_93, rfl, Nq89, Kq89, Ab_94⟩ := hQ89
    have N95 := Fr.app N0 Nq89
    have CR96 : CHr Z EL s.vm h84 s.vm h89 := CHr.keep Kq89 all0 HR88.1
    have HR97 : CHr Z EL s.vm h0 s.vm h89 := HR88.trans CR96
    refine OEnd.of st89 ?_
    show OEnd p e below _ (T89.setTop (mkF m 19 #[.val (.ref t), .val (.int (Int32.ofNat oo)), .val (.int (Int32.ofNat nn))] [(.ref b_92), (.ref b84), (.ref b84)]))
    refine OEnd.of (fun tq kq => XS.iconst X89.here hx rfl (hb hby d22_19) kq) ?_
    show OEnd p e below _ (T89.setTop (mkF m 20 #[.val (.ref t), .val (.int (Int32.ofNat oo)), .val (.int (Int32.ofNat nn))] [(.int (0 : Int32)), (.ref b_92), (.ref b84), (.ref b84)]))
    have K99 : Keep h84 h89 [] := ((Keep.refl h84 []).trans Kq89 all0)
    have O100 : Ext Z.heap h89 := own_extKeep O91 K99 all0
    obtain ⟨_, _, ⟨T98, L98, k98, n98⟩, -, X98, ⟨Lc98, hQ98, l98, y98, z98⟩, st98⟩ := X89.specialBack hx (y := (⟨"java/lang/String", "<init>", "([BB)V"⟩ : MethodName)) rfl hown (mvT hZ (hw _ (List.mem_of_getElem? (i := 137) rfl))) (mvT hZ (hw _ (List.mem_of_getElem? (i := 138) rfl))) (mvT hZ (hw _ (List.mem_of_getElem? (i := 139) rfl))) (by decide) (backOf (W := 1) (rmIBB l Z a0 hw zc fm rt bl lg lv lk ci S_CS hzc S_SF h_fm S_RT E_rt F_bl E_bl F_lg E_lg F_lv A_lv S_CI E_ci [] b84 b_92 h89 O100 (A84.keep K99) (F86.keep K99 nin0) (F85.keep K99 nin0) f84) hZ (hw _ (List.mem_of_getElem? (i := 139) rfl)) (hw _ (List.mem_of_getElem? (i := 7) rfl)) (by decide) (by decide)) (g := (mkF m 20 #[.val (.ref t), .val (.int (Int32.ofNat oo)), .val (.int (Int32.ofNat nn))] [(.int (0 : Int32)), (.ref b_92), (.ref b84), (.ref b84)])) rfl (by rw [hml]; rfl) (Steps.refl _) (a := b84) (argsL := [(.ref b_92), (.int (0 : Int32))]) (rest := [(.ref b84)]) (lenOf pd_285bBB29V rfl) rfl (by show 2 * 0 + _ ≤ _; exact Nat.le_of_eq rfl) (hb hby d22_20) (fun _ _ => ⟨rfl, e89, (by decide : 2 + 0 ≤ _), (by decide : 12 + 0 ≤ _)⟩)
    dsimp only [Pt.U, Pt.locs, Pt.cells, Pt.slots] at X98 l98 y98 z98 st98 hQ98
    subst l98 y98 z98
    obtain ⟨h98, e98⟩ : ∃ z, T98.heap = z := ⟨_, rfl⟩
    rw [e98] at hQ98
    obtain ⟨rfl, Nq98, Kq98, E_101, V_102, C_103⟩ := hQ98
    have N104 := Fr.app N95 Nq98
    have Sf105 : Safe Z EL s.vm h89 b84 := own_safeNull hZ.alike (A84.keep K99) (F86.keep K99 nin0)
    have lt106 : b84 < h89.size := ((A84.keep K99)).lt
    have CR107 : CHr Z EL s.vm h89 s.vm h98 := CHr.keep Kq98 (allS Sf105 all0) HR97.1
    have HR108 : CHr Z EL s.vm h0 s.vm h98 := HR97.trans CR107
    have Sf109 : Safe Z EL s.vm h98 b84 := CR107.safe lt106 Sf105
    refine OEnd.of (fun tq kq => st98.trans kq) ?_
    show OEnd p e below _ (T98.setTop (mkF m 23 #[.val (.ref t), .val (.int (Int32.ofNat oo)), .val (.int (Int32.ofNat nn))] [(.ref b84)]))
    have K110 : Keep h89 h98 [b84] := ((Keep.refl h89 [b84]).trans Kq98 (allS (Or.inl (List.mem_of_getElem? (i := 0) rfl)) all0))
    have Sy : IsStr Z h98 b84 ((cs.drop oo).take nn) := ⟨E_101, C_103, ⟨b_92, kb2_93, V_102, by rw [own_lenDT hon]; exact (Ab_94.keep K110 (ninS (Ne.symm (Exa.neArv (A84.keep K99) Ab_94 (hw _ (List.mem_of_getElem? (i := 6) rfl)))) nin0))⟩, own_rngDT hcs, by rw [own_lenDT hon]; omega⟩
    have K111 : Keep h0 h98 [] := ((K90.trans Kq89 all0).trans Kq98 (allS (Or.inr (Nat.le_of_eq g84.symm)) all0))
    exact OEnd.retAW X98 hx hlk e98 hh hS0 (Nat.le_trans hk0 K111.1) hEL hZ HR108 hret rfl rfl (hb hby d22_23) ⟨b84, rfl, N104, K111, Sy⟩ (by decide) (by decide)
theorem d21_0 : decode jdk_41_method_12_code 0 = .ok (.iload_n 0, 1) := by decide +kernel
theorem d21_1 : decode jdk_41_method_12_code 1 = .ok (.ifCond .lt 13, 3) := by decide +kernel
theorem d21_4 : decode jdk_41_method_12_code 4 = .ok (.iload_n 0, 1) := by decide +kernel
theorem d21_5 : decode jdk_41_method_12_code 5 = .ok (.iload_n 1, 1) := by decide +kernel
theorem d21_6 : decode jdk_41_method_12_code 6 = .ok (.if_icmp .gt 8, 3) := by decide +kernel
theorem d21_9 : decode jdk_41_method_12_code 9 = .ok (.iload_n 1, 1) := by decide +kernel
theorem d21_10 : decode jdk_41_method_12_code 10 = .ok (.iload_n 2, 1) := by decide +kernel
theorem d21_11 : decode jdk_41_method_12_code 11 = .ok (.if_icmp .le 11, 3) := by decide +kernel
theorem d21_22 : decode jdk_41_method_12_code 22 = .ok (.iload_n 0, 1) := by decide +kernel
theorem d21_23 : decode jdk_41_method_12_code 23 = .ok (.ireturn, 1) := by decide +kernel
theorem pn_jdk_internal_util_Preconditions : plainName "jdk/internal/util/Preconditions" = true := by first | (simp [plainName, overriddenIn]; done) | decide +kernel
abbrev RMrmCft : Room := { frames := 0, cells := 0, slots := 0, locals := 0 }
theorem ef_rmCft (m : MethodId) (p1 : Int32) (p2 : Int32) (p3 : Int32) (fv : Value) (h_fv : fv.isRef = true) : entryFrame m #[(.int p1), (.int p2), (.int p3), fv] 4 = mkF m 0 #[.val (.int p1), .val (.int p2), .val (.int p3), .val fv] [] := by rcases ref_cases h_fv with rfl | ⟨_, rfl⟩ <;> first | (simp [entryFrame, mkF, argsToLocals, Value.category]; done) | rfl
def QrmCft (Z : State) (zc : Int32) (fm : Value) (rt : Addr) (bl : Addr) (lg : Addr) (lv : Addr) (lk : ClassId) (ci : Addr) (p1 : Int32) (p2 : Int32) (p3 : Int32) (fv : Value) (h0 : Heap) (v : Option Value) (h : Heap) (L : List Loc) : Prop := v = some (.int p1) ∧ Fr Z.heap.size L ∧ h = h0
set_option maxRecDepth 65536 in
set_option maxHeartbeats 40000000 in
theorem rmCft (l : Launch) (Z : State) (a0 : Array Value) (hw : ∀ d ∈ tables_1, d.before a0 Z = true) (zc : Int32) (fm : Value) (rt : Addr) (bl : Addr) (lg : Addr) (lv : Addr) (lk : ClassId) (ci : Addr) (S_CS : Sta Z Z.heap "java/lang/String" "COMPACT_STRINGS" "Z" (.int zc)) (hzc : ¬ zc = 0) (S_SF : Sta Z Z.heap "jdk/internal/util/Preconditions" "SIOOBE_FORMATTER" "Ljava/util/function/BiFunction;" fm) (h_fm : fm.isRef = true) (S_RT : Sta Z Z.heap "java/util/Locale" "ROOT" "Ljava/util/Locale;" (.ref rt)) (E_rt : Exa Z Z.heap rt "java/util/Locale") (F_bl : Fld Z Z.heap rt "java/util/Locale" "baseLocale" "Lsun/util/locale/BaseLocale;" (.ref bl)) (E_bl : Exa Z Z.heap bl "sun/util/locale/BaseLocale") (F_lg : Fld Z Z.heap bl "sun/util/locale/BaseLocale" "language" "Ljava/lang/String;" (.ref lg)) (E_lg : Exa Z Z.heap lg "java/lang/String") (F_lv : Fld Z Z.heap lg "java/lang/String" "value" "[B" (.ref lv)) (A_lv : Arv Z Z.heap lv lk .byte (0 : Int32) [] (.int (0 : Int32))) (S_CI : Sta Z Z.heap "java/lang/CharacterDataLatin1" "instance" "Ljava/lang/CharacterDataLatin1;" (.ref ci)) (E_ci : Exa Z Z.heap ci "java/lang/CharacterDataLatin1") (ws : List Jvm.Cond) (p1 : Int32) (p2 : Int32) (p3 : Int32) (fv : Value) (h0 : Heap) (O0 : Ext Z.heap h0) (h_fv : fv.isRef = true) (h1 : ¬ p1 < 0) (h2 : ¬ p2 < p1) (h3 : ¬ p3 < p2) :
    MetFree l (⟨"jdk/internal/util/Preconditions", "checkFromToIndex", "(IIILjava/util/function/BiFunction;)I"⟩ : MethodName) (head1 (Jvm.Cond.code (⟨"jdk/internal/util/Preconditions", "checkFromToIndex", "(IIILjava/util/function/BiFunction;)I"⟩ : MethodName) jdk_41_method_12_code 4 (some .int) :: ws) RMrmCft) (fun a U => a = #[(.int p1), (.int p2), (.int p3), fv] ∧ Z.Warmed39 U.vm ∧ U.heap = h0) (fun _ _ _ _ _ => True) (fun _ U o U' => ∃ v L, o = .returned v ∧ QrmCft Z zc fm rt bl lg lv lk ci p1 p2 p3 fv h0 v U'.heap L ∧ FrameEnd U o U' L RMrmCft.cells RMrmCft.slots) := by
  refine MetFree.of_bodySF (plainFor_of_name pn_jdk_internal_util_Preconditions) hisR ?_
  intro p e s m args below meth c s₁ Bd hml0 hP hK
  obtain ⟨rfl, hZ, hh⟩ := hP
  have hx := Bd.exec
  have hby := Bd.bytes
  have hlk : meth.locks = false := BodyLoose.notSynchronized Bd
  have hret := Bd.returns
  have hml : c.maxLocals = 4 := hml0
  have hown : s.vm.findClass "jdk/internal/util/Preconditions" = some m.cls := findClass_of_methodNamed Bd.named
  have hnm := (name_of_methodNamed Bd.named Bd.method).1
  have X0 : Stand p l e RMrmCft s m #[(.int p1), (.int p2), (.int p3), fv] below meth c s₁ [] 0 0 := Stand.of_body Bd
  have e0 : s₁.heap = h0 := by rw [← hh, Bd.state]; rfl
  have N0 := Fr.nil Z.heap.size
  show OEnd p e below (GN s (QrmCft Z zc fm rt bl lg lv lk ci p1 p2 p3 fv h0) RMrmCft.cells RMrmCft.slots) _
  refine OEnd.of (fun tq kq => castTop (ef_rmCft m p1 p2 p3 fv h_fv) kq) ?_
  refine OEnd.of (fun tq kq => XS.iloadN X0.here hx rfl (hb hby d21_0) rfl kq) ?_
  show OEnd p e below _ (s₁.setTop (mkF m 1 #[.val (.int p1), .val (.int p2), .val (.int p3), .val fv] [(.int p1)]))
  refine OEnd.of (fun tq kq => XS.ifNo X0.here hx rfl (hb hby d21_1) rfl ((if0 _ _).trans (flt h1).1) kq) ?_
  show OEnd p e below _ (s₁.setTop (mkF m 4 #[.val (.int p1), .val (.int p2), .val (.int p3), .val fv] []))
  refine OEnd.of (fun tq kq => XS.iloadN X0.here hx rfl (hb hby d21_4) rfl kq) ?_
  show OEnd p e below _ (s₁.setTop (mkF m 5 #[.val (.int p1), .val (.int p2), .val (.int p3), .val fv] [(.int p1)]))
  refine OEnd.of (fun tq kq => XS.iloadN X0.here hx rfl (hb hby d21_5) rfl kq) ?_
  show OEnd p e below _ (s₁.setTop (mkF m 6 #[.val (.int p1), .val (.int p2), .val (.int p3), .val fv] [(.int p2), (.int p1)]))
  refine OEnd.of (fun tq kq => XS.icmpNo X0.here hx rfl (hb hby d21_6) rfl (flt h2).2.2.1 kq) ?_
  show OEnd p e below _ (s₁.setTop (mkF m 9 #[.val (.int p1), .val (.int p2), .val (.int p3), .val fv] []))
  refine OEnd.of (fun tq kq => XS.iloadN X0.here hx rfl (hb hby d21_9) rfl kq) ?_
  show OEnd p e below _ (s₁.setTop (mkF m 10 #[.val (.int p1), .val (.int p2), .val (.int p3), .val fv] [(.int p2)]))
  refine OEnd.of (fun tq kq => XS.iloadN X0.here hx rfl (hb hby d21_10) rfl kq) ?_
  show OEnd p e below _ (s₁.setTop (mkF m 11 #[.val (.int p1), .val (.int p2), .val (.int p3), .val fv] [(.int p3), (.int p2)]))
  refine OEnd.of (fun tq kq => XS.icmpYes X0.here hx rfl (pc0 := 11) (pc' := 22) rfl (hb hby d21_11) rfl (flt h3).2.2.2 (by decide) (by decide) kq) ?_
  show OEnd p e below _ (s₁.setTop (mkF m 22 #[.val (.int p1), .val (.int p2), .val (.int p3), .val fv] []))
  refine OEnd.of (fun tq kq => XS.iloadN X0.here hx rfl (hb hby d21_22) rfl kq) ?_
  show OEnd p e below _ (s₁.setTop (mkF m 23 #[.val (.int p1), .val (.int p2), .val (.int p3), .val fv] [(.int p1)]))
  exact OEnd.retI X0 hx hlk e0 hret (hb hby d21_23) ⟨rfl, N0, rfl⟩ (by decide) (by decide)
theorem pd_28IIILjava2futil2ffunction2fBiFunction3b29I : parseMethodDescriptor "(IIILjava/util/function/BiFunction;)I" = some ⟨[.int, .int, .int, (.object "java/util/function/BiFunction")], some .int⟩ := by decide +kernel
theorem d20_0 : decode jdk_42_method_158_code 0 = .ok (.iload_n 0, 1) := by decide +kernel
theorem d20_1 : decode jdk_42_method_158_code 1 = .ok (.iload_n 1, 1) := by decide +kernel
theorem d20_2 : decode jdk_42_method_158_code 2 = .ok (.iload_n 2, 1) := by decide +kernel
theorem d20_3 : decode jdk_42_method_158_code 3 = .ok (.getstatic 1053, 3) := by decide +kernel
theorem d20_6 : decode jdk_42_method_158_code 6 = .ok (.invokestatic 1062, 3) := by decide +kernel
theorem d20_9 : decode jdk_42_method_158_code 9 = .ok (.pop, 1) := by decide +kernel
theorem d20_10 : decode jdk_42_method_158_code 10 = .ok (.return_, 1) := by decide +kernel
abbrev RMrmCbb : Room := { frames := 1, cells := 0, slots := 0, locals := 15 }
theorem ef_rmCbb (m : MethodId) (p1 : Int32) (p2 : Int32) (p3 : Int32) : entryFrame m #[(.int p1), (.int p2), (.int p3)] 3 = mkF m 0 #[.val (.int p1), .val (.int p2), .val (.int p3)] [] := by first | (simp [entryFrame, mkF, argsToLocals, Value.category]; done) | rfl
def QrmCbb (Z : State) (zc : Int32) (fm : Value) (rt : Addr) (bl : Addr) (lg : Addr) (lv : Addr) (lk : ClassId) (ci : Addr) (p1 : Int32) (p2 : Int32) (p3 : Int32) (h0 : Heap) (v : Option Value) (h : Heap) (L : List Loc) : Prop := v = none ∧ Fr Z.heap.size L ∧ h = h0
set_option maxRecDepth 65536 in
set_option maxHeartbeats 40000000 in
theorem rmCbb (l : Launch) (Z : State) (a0 : Array Value) (hw : ∀ d ∈ tables_1, d.before a0 Z = true) (zc : Int32) (fm : Value) (rt : Addr) (bl : Addr) (lg : Addr) (lv : Addr) (lk : ClassId) (ci : Addr) (S_CS : Sta Z Z.heap "java/lang/String" "COMPACT_STRINGS" "Z" (.int zc)) (hzc : ¬ zc = 0) (S_SF : Sta Z Z.heap "jdk/internal/util/Preconditions" "SIOOBE_FORMATTER" "Ljava/util/function/BiFunction;" fm) (h_fm : fm.isRef = true) (S_RT : Sta Z Z.heap "java/util/Locale" "ROOT" "Ljava/util/Locale;" (.ref rt)) (E_rt : Exa Z Z.heap rt "java/util/Locale") (F_bl : Fld Z Z.heap rt "java/util/Locale" "baseLocale" "Lsun/util/locale/BaseLocale;" (.ref bl)) (E_bl : Exa Z Z.heap bl "sun/util/locale/BaseLocale") (F_lg : Fld Z Z.heap bl "sun/util/locale/BaseLocale" "language" "Ljava/lang/String;" (.ref lg)) (E_lg : Exa Z Z.heap lg "java/lang/String") (F_lv : Fld Z Z.heap lg "java/lang/String" "value" "[B" (.ref lv)) (A_lv : Arv Z Z.heap lv lk .byte (0 : Int32) [] (.int (0 : Int32))) (S_CI : Sta Z Z.heap "java/lang/CharacterDataLatin1" "instance" "Ljava/lang/CharacterDataLatin1;" (.ref ci)) (E_ci : Exa Z Z.heap ci "java/lang/CharacterDataLatin1") (ws : List Jvm.Cond) (p1 : Int32) (p2 : Int32) (p3 : Int32) (h0 : Heap) (O0 : Ext Z.heap h0) (h1 : ¬ p1 < 0) (h2 : ¬ p2 < p1) (h3 : ¬ p3 < p2) :
    MetFree l (⟨"java/lang/String", "checkBoundsBeginEnd", "(III)V"⟩ : MethodName) (head1 (Jvm.Cond.code (⟨"java/lang/String", "checkBoundsBeginEnd", "(III)V"⟩ : MethodName) jdk_42_method_158_code 3 none :: ws) RMrmCbb) (fun a U => a = #[(.int p1), (.int p2), (.int p3)] ∧ Z.Warmed39 U.vm ∧ U.heap = h0) (fun _ _ _ _ _ => True) (fun _ U o U' => ∃ v L, o = .returned v ∧ QrmCbb Z zc fm rt bl lg lv lk ci p1 p2 p3 h0 v U'.heap L ∧ FrameEnd U o U' L RMrmCbb.cells RMrmCbb.slots) := by
  refine MetFree.of_bodySF (plainFor_of_name pn_java_lang_String) hisR ?_
  intro p e s m args below meth c s₁ Bd hml0 hP hK
  obtain ⟨rfl, hZ, hh⟩ := hP
  have hx := Bd.exec
  have hby := Bd.bytes
  have hlk : meth.locks = false := BodyLoose.notSynchronized Bd
  have hret := Bd.returns
  have hml : c.maxLocals = 3 := hml0
  have hown : s.vm.findClass "java/lang/String" = some m.cls := findClass_of_methodNamed Bd.named
  have hnm := (name_of_methodNamed Bd.named Bd.method).1
  have X0 : Stand p l e RMrmCbb s m #[(.int p1), (.int p2), (.int p3)] below meth c s₁ [] 0 0 := Stand.of_body Bd
  have e0 : s₁.heap = h0 := by rw [← hh, Bd.state]; rfl
  have N0 := Fr.nil Z.heap.size
  show OEnd p e below (GN s (QrmCbb Z zc fm rt bl lg lv lk ci p1 p2 p3 h0) RMrmCbb.cells RMrmCbb.slots) _
  refine OEnd.of (fun tq kq => castTop (ef_rmCbb m p1 p2 p3) kq) ?_
  refine OEnd.of (fun tq kq => XS.iloadN X0.here hx rfl (hb hby d20_0) rfl kq) ?_
  show OEnd p e below _ (s₁.setTop (mkF m 1 #[.val (.int p1), .val (.int p2), .val (.int p3)] [(.int p1)]))
  refine OEnd.of (fun tq kq => XS.iloadN X0.here hx rfl (hb hby d20_1) rfl kq) ?_
  show OEnd p e below _ (s₁.setTop (mkF m 2 #[.val (.int p1), .val (.int p2), .val (.int p3)] [(.int p2), (.int p1)]))
  refine OEnd.of (fun tq kq => XS.iloadN X0.here hx rfl (hb hby d20_2) rfl kq) ?_
  show OEnd p e below _ (s₁.setTop (mkF m 3 #[.val (.int p1), .val (.int p2), .val (.int p3)] [(.int p3), (.int p2), (.int p1)]))
  obtain ⟨T112, X112, e112, st112⟩ := getS2 X0 hx hZ hown (host := "") (Or.inl (hw _ (List.mem_of_getElem? (i := 88) rfl))) Via.refl e0 (Sta.ext O0 S_SF) (g := (mkF m 3 #[.val (.int p1), .val (.int p2), .val (.int p3)] [(.int p3), (.int p2), (.int p1)])) rfl (hb hby d20_3)
  refine OEnd.of st112 ?_
  show OEnd p e below _ (T112.setTop (mkF m 6 #[.val (.int p1), .val (.int p2), .val (.int p3)] [fm, (.int p3), (.int p2), (.int p1)]))
  obtain ⟨_, _, ⟨T113, L113, k113, n113⟩, -, X113, ⟨Lc113, hQ113, l113, y113, z113⟩, st113⟩ := Jvm.LawKit.callS X112 hx (y := (⟨"jdk/internal/util/Preconditions", "checkFromToIndex", "(IIILjava/util/function/BiFunction;)I"⟩ : MethodName)) hown (mvT hZ (hw _ (List.mem_of_getElem? (i := 90) rfl))) (mvT hZ (hw _ (List.mem_of_getElem? (i := 91) rfl))) (mvT hZ (hw _ (List.mem_of_getElem? (i := 89) rfl))) (mvT hZ (hw _ (List.mem_of_getElem? (i := 92) rfl))) (by decide) (backOf (W := 0) (rmCft l Z a0 hw zc fm rt bl lg lv lk ci S_CS hzc S_SF h_fm S_RT E_rt F_bl E_bl F_lg E_lg F_lv A_lv S_CI E_ci [] p1 p2 p3 fm h0 O0 h_fm h1 h2 h3) hZ (hw _ (List.mem_of_getElem? (i := 92) rfl)) (hw _ (List.mem_of_getElem? (i := 89) rfl)) (by decide) (by decide)) (g := (mkF m 6 #[.val (.int p1), .val (.int p2), .val (.int p3)] [fm, (.int p3), (.int p2), (.int p1)])) rfl (by rw [hml]; rfl) (argsL := [(.int p1), (.int p2), (.int p3), fm]) (rest := []) (lenOf pd_28IIILjava2futil2ffunction2fBiFunction3b29I rfl) rfl (by show 2 * 0 + _ ≤ _; exact Nat.le_of_eq rfl) (hb hby d20_6) (fun _ _ => ⟨rfl, e112, (by decide : 0 + 0 ≤ _), (by decide : 0 + 0 ≤ _)⟩)
  dsimp only [Pt.U, Pt.locs, Pt.cells, Pt.slots] at X113 l113 y113 z113 st113 hQ113
  subst l113 y113 z113
  obtain ⟨rfl, Nq113, e113⟩ := hQ113
  have N114 := Fr.app N0 Nq113
  refine OEnd.of st113 ?_
  show OEnd p e below _ (T113.setTop (mkF m 9 #[.val (.int p1), .val (.int p2), .val (.int p3)] [(.int p1)]))
  refine OEnd.of (fun tq kq => XS.pop X113.here hx rfl (hb hby d20_9) rfl rfl kq) ?_
  show OEnd p e below _ (T113.setTop (mkF m 10 #[.val (.int p1), .val (.int p2), .val (.int p3)] []))
  exact OEnd.retV X113 hx hlk e113 hret (hb hby d20_10) ⟨rfl, N114, rfl⟩ (by decide) (by decide)
theorem pd_28III29V : parseMethodDescriptor "(III)V" = some ⟨[.int, .int, .int], none⟩ := by decide +kernel
theorem pd_285bBII29Ljava2flang2fString3b : parseMethodDescriptor "([BII)Ljava/lang/String;" = some ⟨[(.array .byte), .int, .int], some (.object "java/lang/String")⟩ := by decide +kernel
theorem d19_0 : decode jdk_42_method_92_code 0 = .ok (.aload_n 0, 1) := by decide +kernel
theorem d19_1 : decode jdk_42_method_92_code 1 = .ok (.invokevirtual 505, 3) := by decide +kernel
theorem d19_4 : decode jdk_42_method_92_code 4 = .ok (.istore_n 3, 1) := by decide +kernel
theorem d19_5 : decode jdk_42_method_92_code 5 = .ok (.iload_n 1, 1) := by decide +kernel
theorem d19_6 : decode jdk_42_method_92_code 6 = .ok (.iload_n 2, 1) := by decide +kernel
theorem d19_7 : decode jdk_42_method_92_code 7 = .ok (.iload_n 3, 1) := by decide +kernel
theorem d19_8 : decode jdk_42_method_92_code 8 = .ok (.invokestatic 521, 3) := by decide +kernel
theorem d19_11 : decode jdk_42_method_92_code 11 = .ok (.iload_n 1, 1) := by decide +kernel
theorem d19_12 : decode jdk_42_method_92_code 12 = .ok (.ifCond .ne 10, 3) := by decide +kernel
theorem d19_15 : decode jdk_42_method_92_code 15 = .ok (.iload_n 2, 1) := by decide +kernel
theorem d19_16 : decode jdk_42_method_92_code 16 = .ok (.iload_n 3, 1) := by decide +kernel
theorem d19_17 : decode jdk_42_method_92_code 17 = .ok (.if_icmp .ne 5, 3) := by decide +kernel
theorem d19_20 : decode jdk_42_method_92_code 20 = .ok (.aload_n 0, 1) := by decide +kernel
theorem d19_21 : decode jdk_42_method_92_code 21 = .ok (.areturn, 1) := by decide +kernel
theorem d19_22 : decode jdk_42_method_92_code 22 = .ok (.iload_n 2, 1) := by decide +kernel
theorem d19_23 : decode jdk_42_method_92_code 23 = .ok (.iload_n 1, 1) := by decide +kernel
theorem d19_24 : decode jdk_42_method_92_code 24 = .ok (.isub, 1) := by decide +kernel
theorem d19_25 : decode jdk_42_method_92_code 25 = .ok (.istore 4, 2) := by decide +kernel
theorem d19_27 : decode jdk_42_method_92_code 27 = .ok (.aload_n 0, 1) := by decide +kernel
theorem d19_28 : decode jdk_42_method_92_code 28 = .ok (.invokevirtual 492, 3) := by decide +kernel
theorem d19_31 : decode jdk_42_method_92_code 31 = .ok (.ifCond .eq 16, 3) := by decide +kernel
theorem d19_34 : decode jdk_42_method_92_code 34 = .ok (.aload_n 0, 1) := by decide +kernel
theorem d19_35 : decode jdk_42_method_92_code 35 = .ok (.getfield 9, 3) := by decide +kernel
theorem d19_38 : decode jdk_42_method_92_code 38 = .ok (.iload_n 1, 1) := by decide +kernel
theorem d19_39 : decode jdk_42_method_92_code 39 = .ok (.iload 4, 2) := by decide +kernel
theorem d19_41 : decode jdk_42_method_92_code 41 = .ok (.invokestatic 685, 3) := by decide +kernel
theorem d19_44 : decode jdk_42_method_92_code 44 = .ok (.goto 13, 3) := by decide +kernel
theorem d19_57 : decode jdk_42_method_92_code 57 = .ok (.areturn, 1) := by decide +kernel
abbrev RMrmSub : Room := { frames := 4, cells := 2, slots := 12, locals := 70 }
theorem ef_rmSub (m : MethodId) (a1 : Addr) (oo : Nat) (ee : Nat) : entryFrame m #[(.ref a1), (.int (Int32.ofNat oo)), (.int (Int32.ofNat ee))] 5 = mkF m 0 #[.val (.ref a1), .val (.int (Int32.ofNat oo)), .val (.int (Int32.ofNat ee)), .unset, .unset] [] := by first | (simp [entryFrame, mkF, argsToLocals, Value.category]; done) | rfl
def QrmSub (Z : State) (zc : Int32) (fm : Value) (rt : Addr) (bl : Addr) (lg : Addr) (lv : Addr) (lk : ClassId) (ci : Addr) (a1 : Addr) (cs : List Int32) (oo : Nat) (ee : Nat) (h0 : Heap) (v : Option Value) (h : Heap) (L : List Loc) : Prop := ∃ (r : Addr), v = some (.ref r) ∧ Fr Z.heap.size L ∧ Keep h0 h [] ∧ IsStr Z h r ((cs.drop oo).take (ee - oo))
set_option maxRecDepth 65536 in
set_option maxHeartbeats 40000000 in
theorem rmSub (l : Launch) (Z : State) (a0 : Array Value) (hw : ∀ d ∈ tables_1, d.before a0 Z = true) (zc : Int32) (fm : Value) (rt : Addr) (bl : Addr) (lg : Addr) (lv : Addr) (lk : ClassId) (ci : Addr) (S_CS : Sta Z Z.heap "java/lang/String" "COMPACT_STRINGS" "Z" (.int zc)) (hzc : ¬ zc = 0) (S_SF : Sta Z Z.heap "jdk/internal/util/Preconditions" "SIOOBE_FORMATTER" "Ljava/util/function/BiFunction;" fm) (h_fm : fm.isRef = true) (S_RT : Sta Z Z.heap "java/util/Locale" "ROOT" "Ljava/util/Locale;" (.ref rt)) (E_rt : Exa Z Z.heap rt "java/util/Locale") (F_bl : Fld Z Z.heap rt "java/util/Locale" "baseLocale" "Lsun/util/locale/BaseLocale;" (.ref bl)) (E_bl : Exa Z Z.heap bl "sun/util/locale/BaseLocale") (F_lg : Fld Z Z.heap bl "sun/util/locale/BaseLocale" "language" "Ljava/lang/String;" (.ref lg)) (E_lg : Exa Z Z.heap lg "java/lang/String") (F_lv : Fld Z Z.heap lg "java/lang/String" "value" "[B" (.ref lv)) (A_lv : Arv Z Z.heap lv lk .byte (0 : Int32) [] (.int (0 : Int32))) (S_CI : Sta Z Z.heap "java/lang/CharacterDataLatin1" "instance" "Ljava/lang/CharacterDataLatin1;" (.ref ci)) (E_ci : Exa Z Z.heap ci "java/lang/CharacterDataLatin1") (hEL : EW Z a0 EL) (ws : List Jvm.Cond) (a1 : Addr) (cs : List Int32) (oo : Nat) (ee : Nat) (h0 : Heap) (O0 : Ext Z.heap h0) (Ss : IsStr Z h0 a1 cs) (hl : cs.length ≤ 8) (hoe : oo ≤ ee) (hee : ee ≤ cs.length) :
    MetFree l (⟨"java/lang/String", "substring", "(II)Ljava/lang/String;"⟩ : MethodName) (head1 (Jvm.Cond.code (⟨"java/lang/String", "substring", "(II)Ljava/lang/String;"⟩ : MethodName) jdk_42_method_92_code 5 (some (.object "java/lang/String")) :: ws) RMrmSub) (fun a U => a = #[(.ref a1), (.int (Int32.ofNat oo)), (.int (Int32.ofNat ee))] ∧ Z.Warmed39 U.vm ∧ U.heap = h0 ∧ CHv Z EL U.vm h0) (fun _ _ _ _ _ => True) (fun _ U o U' => ∃ v L, o = .returned v ∧ QrmSub Z zc fm rt bl lg lv lk ci a1 cs oo ee h0 v U'.heap L ∧ CHr Z EL U.vm U.heap U'.vm U'.heap ∧ ReturnedEndW U o U' L RMrmSub.cells RMrmSub.slots) := by
  refine MetFree.of_bodySF (plainFor_of_name pn_java_lang_String) hisR ?_
  intro p e s m args below meth c s₁ Bd hml0 hP hK
  obtain ⟨rfl, hZ, hh, hC0⟩ := hP
  have hx := Bd.exec
  have hby := Bd.bytes
  have hlk : meth.locks = false := BodyLoose.notSynchronized Bd
  have hret := Bd.returns
  have hml : c.maxLocals = 5 := hml0
  have hown : s.vm.findClass "java/lang/String" = some m.cls := findClass_of_methodNamed Bd.named
  have hnm := (name_of_methodNamed Bd.named Bd.method).1
  have X0 : Stand p l e RMrmSub (s.setVm s.vm) m #[(.ref a1), (.int (Int32.ofNat oo)), (.int (Int32.ofNat ee))] below meth c s₁ [] 0 0 := Stand.of_body Bd
  have e0 : s₁.heap = h0 := by rw [← hh, Bd.state]; rfl
  have N0 := Fr.nil Z.heap.size
  have hZ : Z.Warmed39 (s.setVm s.vm).vm := hZ
  have hS0 : s.Since s.vm h0.size := (State.WarmedH.refl s).since _
  have hk0 : h0.size ≤ h0.size := Nat.le_refl _
  have HR0 : CHr Z EL s.vm h0 s.vm h0 := CHr.refl hC0
  have hwS : ∀ d ∈ Bundle.stringAtoms, d.before a0 Z = true := fun d hd => hw d (own_strAtoms d hd)
  show OEnd p e below (GW s Z EL (QrmSub Z zc fm rt bl lg lv lk ci a1 cs oo ee h0) RMrmSub.cells RMrmSub.slots) _
  refine OEnd.of (fun tq kq => castTop (ef_rmSub m a1 oo ee) kq) ?_
  have So115 := Ss
  obtain ⟨Eo115, Co115, ⟨to115, ko115, Vo115, Ao115⟩, Bo115, lo115⟩ := So115
  have hl4 : cs.length ≤ 4000 := Nat.le_trans hl (by decide)
  refine OEnd.of (fun tq kq => XS.aloadN X0.here hx rfl (hb hby d19_0) rfl rfl kq) ?_
  show OEnd p e below _ (s₁.setTop (mkF m 1 #[.val (.ref a1), .val (.int (Int32.ofNat oo)), .val (.int (Int32.ofNat ee)), .unset, .unset] [(.ref a1)]))
  obtain ⟨cq116, kq116, q116a, q116b, q116c⟩ := isOf hZ e0 Eo115
  obtain ⟨_, _, ⟨T116, L116, k116, n116⟩, -, X116, ⟨Lc116, hQ116, l116, y116, z116⟩, st116⟩ := X0.virtualBack hx (y := (⟨"java/lang/String", "length", "()I"⟩ : MethodName)) (z := (⟨"java/lang/String", "length", "()I"⟩ : MethodName)) hown (mvT hZ (hw _ (List.mem_of_getElem? (i := 53) rfl))) (mvT hZ (hw _ (List.mem_of_getElem? (i := 54) rfl))) (notFace_of_selects (args := #[]) (mvT hZ (hw _ (List.mem_of_getElem? (i := 56) rfl)))) (mvT hZ (hw _ (List.mem_of_getElem? (i := 56) rfl))) (mvT hZ (hw _ (List.mem_of_getElem? (i := 55) rfl))) (by decide) (backOf (W := 0) (rmLen l Z a0 hw zc fm rt bl lg lv lk ci S_CS hzc S_SF h_fm S_RT E_rt F_bl E_bl F_lg E_lg F_lv A_lv S_CI E_ci [] a1 cs h0 O0 Ss) hZ (hw _ (List.mem_of_getElem? (i := 57) rfl)) (hw _ (List.mem_of_getElem? (i := 7) rfl)) (by decide) (by decide)) q116a q116c (g := (mkF m 1 #[.val (.ref a1), .val (.int (Int32.ofNat oo)), .val (.int (Int32.ofNat ee)), .unset, .unset] [(.ref a1)])) rfl (by rw [hml]; rfl) (Steps.refl _) (argsL := []) (rest := []) (lenOf pd_2829I rfl) rfl (by show 2 * 0 + _ ≤ _; exact Nat.le_of_eq rfl) (hb hby d19_1) (fun _ _ => ⟨rfl, e0, (by decide : 0 + 0 ≤ _), (by decide : 0 + 0 ≤ _)⟩)
  dsimp only [Pt.U, Pt.locs, Pt.cells, Pt.slots] at X116 l116 y116 z116 st116 hQ116
  subst l116 y116 z116
  obtain ⟨rfl, Nq116, e116⟩ := hQ116
  have N117 := Fr.app N0 Nq116
  refine OEnd.of (fun tq kq => st116.trans kq) ?_
  show OEnd p e below _ (T116.setTop (mkF m 4 #[.val (.ref a1), .val (.int (Int32.ofNat oo)), .val (.int (Int32.ofNat ee)), .unset, .unset] [(.int (Int32.ofNat cs.length))]))
  refine OEnd.of (fun tq kq => XS.istoreN X116.here hx rfl (hb hby d19_4) rfl (l' := #[.val (.ref a1), .val (.int (Int32.ofNat oo)), .val (.int (Int32.ofNat ee)), .val (.int (Int32.ofNat cs.length)), .unset]) rfl kq) ?_
  show OEnd p e below _ (T116.setTop (mkF m 5 #[.val (.ref a1), .val (.int (Int32.ofNat oo)), .val (.int (Int32.ofNat ee)), .val (.int (Int32.ofNat cs.length)), .unset] []))
  refine OEnd.of (fun tq kq => XS.iloadN X116.here hx rfl (hb hby d19_5) rfl kq) ?_
  show OEnd p e below _ (T116.setTop (mkF m 6 #[.val (.ref a1), .val (.int (Int32.ofNat oo)), .val (.int (Int32.ofNat ee)), .val (.int (Int32.ofNat cs.length)), .unset] [(.int (Int32.ofNat oo))]))
  refine OEnd.of (fun tq kq => XS.iloadN X116.here hx rfl (hb hby d19_6) rfl kq) ?_
  show OEnd p e below _ (T116.setTop (mkF m 7 #[.val (.ref a1), .val (.int (Int32.ofNat oo)), .val (.int (Int32.ofNat ee)), .val (.int (Int32.ofNat cs.length)), .unset] [(.int (Int32.ofNat ee)), (.int (Int32.ofNat oo))]))
  refine OEnd.of (fun tq kq => XS.iloadN X116.here hx rfl (hb hby d19_7) rfl kq) ?_
  show OEnd p e below _ (T116.setTop (mkF m 8 #[.val (.ref a1), .val (.int (Int32.ofNat oo)), .val (.int (Int32.ofNat ee)), .val (.int (Int32.ofNat cs.length)), .unset] [(.int (Int32.ofNat cs.length)), (.int (Int32.ofNat ee)), (.int (Int32.ofNat oo))]))
  obtain ⟨_, _, ⟨T118, L118, k118, n118⟩, -, X118, ⟨Lc118, hQ118, l118, y118, z118⟩, st118⟩ := Jvm.LawKit.callS X116 hx (y := (⟨"java/lang/String", "checkBoundsBeginEnd", "(III)V"⟩ : MethodName)) hown (mvT hZ (hw _ (List.mem_of_getElem? (i := 85) rfl))) (mvT hZ (hw _ (List.mem_of_getElem? (i := 86) rfl))) (mvT hZ (hw _ (List.mem_of_getElem? (i := 7) rfl))) (mvT hZ (hw _ (List.mem_of_getElem? (i := 87) rfl))) (by decide) (backOf (W := 0) (rmCbb l Z a0 hw zc fm rt bl lg lv lk ci S_CS hzc S_SF h_fm S_RT E_rt F_bl E_bl F_lg E_lg F_lv A_lv S_CI E_ci [] (Int32.ofNat oo) (Int32.ofNat ee) (Int32.ofNat cs.length) h0 O0 (own_nn (c := 4000) (by omega) (Nat.le_refl _)) (fun q => absurd ((own_ltN (by omega) (by omega)).mp q) (by omega)) (fun q => absurd ((own_ltN (by omega) (by omega)).mp q) (by omega))) hZ (hw _ (List.mem_of_getElem? (i := 87) rfl)) (hw _ (List.mem_of_getElem? (i := 7) rfl)) (by decide) (by decide)) (g := (mkF m 8 #[.val (.ref a1), .val (.int (Int32.ofNat oo)), .val (.int (Int32.ofNat ee)), .val (.int (Int32.ofNat cs.length)), .unset] [(.int (Int32.ofNat cs.length)), (.int (Int32.ofNat ee)), (.int (Int32.ofNat oo))])) rfl (by rw [hml]; rfl) (argsL := [(.int (Int32.ofNat oo)), (.int (Int32.ofNat ee)), (.int (Int32.ofNat cs.length))]) (rest := []) (lenOf pd_28III29V rfl) rfl (by show 2 * 0 + _ ≤ _; exact Nat.le_of_eq rfl) (hb hby d19_8) (fun _ _ => ⟨rfl, e116, (by decide : 0 + 0 ≤ _), (by decide : 0 + 0 ≤ _)⟩)
  dsimp only [Pt.U, Pt.locs, Pt.cells, Pt.slots] at X118 l118 y118 z118 st118 hQ118
  subst l118 y118 z118
  obtain ⟨rfl, Nq118, e118⟩ := hQ118
  have N119 := Fr.app N117 Nq118
  refine OEnd.of st118 ?_
  show OEnd p e below _ (T118.setTop (mkF m 11 #[.val (.ref a1), .val (.int (Int32.ofNat oo)), .val (.int (Int32.ofNat ee)), .val (.int (Int32.ofNat cs.length)), .unset] []))
  refine OEnd.of (fun tq kq => XS.iloadN X118.here hx rfl (hb hby d19_11) rfl kq) ?_
  show OEnd p e below _ (T118.setTop (mkF m 12 #[.val (.ref a1), .val (.int (Int32.ofNat oo)), .val (.int (Int32.ofNat ee)), .val (.int (Int32.ofNat cs.length)), .unset] [(.int (Int32.ofNat oo))]))
  have J120 : ∀ (vm120 : Vm) (T120 : State) (Lo120 : List Loc), Stand p l e RMrmSub (s.setVm vm120) m #[(.ref a1), (.int (Int32.ofNat oo)), (.int (Int32.ofNat ee))] below meth c T120 Lo120 0 0 → T120.heap = h0 → Fr Z.heap.size Lo120 → (∃ k0, s.Since vm120 k0 ∧ k0 ≤ h0.size) → Z.Warmed39 (s.setVm vm120).vm → (s.setVm vm120).vm.findClass "java/lang/String" = some m.cls → CHr Z EL s.vm h0 vm120 h0 → (¬ (oo = 0 ∧ ee - oo = cs.length)) → OEnd p e below (GW s Z EL (QrmSub Z zc fm rt bl lg lv lk ci a1 cs oo ee h0) RMrmSub.cells RMrmSub.slots) (T120.setTop (mkF m 22 #[.val (.ref a1), .val (.int (Int32.ofNat oo)), .val (.int (Int32.ofNat ee)), .val (.int (Int32.ofNat cs.length)), .unset] [])) := by
    rintro vm120 T120 Lo120 X120 e120 N120 ⟨kk120, hS120, hk120⟩ hZ120 hown120 HR120 h22
    show OEnd p e below _ (T120.setTop (mkF m 22 #[.val (.ref a1), .val (.int (Int32.ofNat oo)), .val (.int (Int32.ofNat ee)), .val (.int (Int32.ofNat cs.length)), .unset] []))
    refine OEnd.of (fun tq kq => XS.iloadN X120.here hx rfl (hb hby d19_22) rfl kq) ?_
    show OEnd p e below _ (T120.setTop (mkF m 23 #[.val (.ref a1), .val (.int (Int32.ofNat oo)), .val (.int (Int32.ofNat ee)), .val (.int (Int32.ofNat cs.length)), .unset] [(.int (Int32.ofNat ee))]))
    refine OEnd.of (fun tq kq => XS.iloadN X120.here hx rfl (hb hby d19_23) rfl kq) ?_
    show OEnd p e below _ (T120.setTop (mkF m 24 #[.val (.ref a1), .val (.int (Int32.ofNat oo)), .val (.int (Int32.ofNat ee)), .val (.int (Int32.ofNat cs.length)), .unset] [(.int (Int32.ofNat oo)), (.int (Int32.ofNat ee))]))
    refine OEnd.of (fun tq kq => XS.isub X120.here hx rfl (hb hby d19_24) rfl kq) ?_
    show OEnd p e below _ (T120.setTop (mkF m 25 #[.val (.ref a1), .val (.int (Int32.ofNat oo)), .val (.int (Int32.ofNat ee)), .val (.int (Int32.ofNat cs.length)), .unset] [(.int ((Int32.ofNat ee) - (Int32.ofNat oo)))]))
    rw [show ((Int32.ofNat ee) - (Int32.ofNat oo)) = (Int32.ofNat (ee - oo)) from own_sub hoe]
    show OEnd p e below _ (T120.setTop (mkF m 25 #[.val (.ref a1), .val (.int (Int32.ofNat oo)), .val (.int (Int32.ofNat ee)), .val (.int (Int32.ofNat cs.length)), .unset] [(.int (Int32.ofNat (ee - oo)))]))
    refine OEnd.of (fun tq kq => XS.istore X120.here hx rfl (hb hby d19_25) rfl (l' := #[.val (.ref a1), .val (.int (Int32.ofNat oo)), .val (.int (Int32.ofNat ee)), .val (.int (Int32.ofNat cs.length)), .val (.int (Int32.ofNat (ee - oo)))]) rfl kq) ?_
    show OEnd p e below _ (T120.setTop (mkF m 27 #[.val (.ref a1), .val (.int (Int32.ofNat oo)), .val (.int (Int32.ofNat ee)), .val (.int (Int32.ofNat cs.length)), .val (.int (Int32.ofNat (ee - oo)))] []))
    refine OEnd.of (fun tq kq => XS.aloadN X120.here hx rfl (hb hby d19_27) rfl rfl kq) ?_
    show OEnd p e below _ (T120.setTop (mkF m 28 #[.val (.ref a1), .val (.int (Int32.ofNat oo)), .val (.int (Int32.ofNat ee)), .val (.int (Int32.ofNat cs.length)), .val (.int (Int32.ofNat (ee - oo)))] [(.ref a1)]))
    obtain ⟨cq121, kq121, q121a, q121b, q121c⟩ := isOf hZ120 e120 Eo115
    obtain ⟨_, _, ⟨T121, L121, k121, n121⟩, -, X121, ⟨Lc121, hQ121, l121, y121, z121⟩, st121⟩ := X120.virtualBack hx (y := (⟨"java/lang/String", "isLatin1", "()Z"⟩ : MethodName)) (z := (⟨"java/lang/String", "isLatin1", "()Z"⟩ : MethodName)) hown120 (mvT hZ120 (hw _ (List.mem_of_getElem? (i := 48) rfl))) (mvT hZ120 (hw _ (List.mem_of_getElem? (i := 49) rfl))) (notFace_of_selects (args := #[]) (mvT hZ120 (hw _ (List.mem_of_getElem? (i := 51) rfl)))) (mvT hZ120 (hw _ (List.mem_of_getElem? (i := 51) rfl))) (mvT hZ120 (hw _ (List.mem_of_getElem? (i := 50) rfl))) (by decide) (backOf (W := 0) (rmIsl l Z a0 hw zc fm rt bl lg lv lk ci S_CS hzc S_SF h_fm S_RT E_rt F_bl E_bl F_lg E_lg F_lv A_lv S_CI E_ci [] a1 cs h0 O0 Ss) hZ120 (hw _ (List.mem_of_getElem? (i := 52) rfl)) (hw _ (List.mem_of_getElem? (i := 7) rfl)) (by decide) (by decide)) q121a q121c (g := (mkF m 28 #[.val (.ref a1), .val (.int (Int32.ofNat oo)), .val (.int (Int32.ofNat ee)), .val (.int (Int32.ofNat cs.length)), .val (.int (Int32.ofNat (ee - oo)))] [(.ref a1)])) rfl (by rw [hml]; rfl) (Steps.refl _) (argsL := []) (rest := []) (lenOf pd_2829Z rfl) rfl (by show 2 * 0 + _ ≤ _; exact Nat.le_of_eq rfl) (hb hby d19_28) (fun _ _ => ⟨rfl, e120, (by decide : 0 + 0 ≤ _), (by decide : 0 + 0 ≤ _)⟩)
    dsimp only [Pt.U, Pt.locs, Pt.cells, Pt.slots] at X121 l121 y121 z121 st121 hQ121
    subst l121 y121 z121
    obtain ⟨rfl, Nq121, e121⟩ := hQ121
    have N122 := Fr.app N120 Nq121
    refine OEnd.of (fun tq kq => st121.trans kq) ?_
    show OEnd p e below _ (T121.setTop (mkF m 31 #[.val (.ref a1), .val (.int (Int32.ofNat oo)), .val (.int (Int32.ofNat ee)), .val (.int (Int32.ofNat cs.length)), .val (.int (Int32.ofNat (ee - oo)))] [(.int (1 : Int32))]))
    refine OEnd.of (fun tq kq => XS.ifNo X121.here hx rfl (hb hby d19_31) rfl ((if0 _ _).trans (feq (by decide : ¬ ((1 : Int32) = (0 : Int32)))).1) kq) ?_
    show OEnd p e below _ (T121.setTop (mkF m 34 #[.val (.ref a1), .val (.int (Int32.ofNat oo)), .val (.int (Int32.ofNat ee)), .val (.int (Int32.ofNat cs.length)), .val (.int (Int32.ofNat (ee - oo)))] []))
    refine OEnd.of (fun tq kq => XS.aloadN X121.here hx rfl (hb hby d19_34) rfl rfl kq) ?_
    show OEnd p e below _ (T121.setTop (mkF m 35 #[.val (.ref a1), .val (.int (Int32.ofNat oo)), .val (.int (Int32.ofNat ee)), .val (.int (Int32.ofNat cs.length)), .val (.int (Int32.ofNat (ee - oo)))] [(.ref a1)]))
    obtain ⟨T123, X123, e123, st123⟩ := getF X121 hx hZ120 hown120 (host := "") (Or.inl (hw _ (List.mem_of_getElem? (i := 32) rfl))) Via.refl e121 Vo115 (g := (mkF m 35 #[.val (.ref a1), .val (.int (Int32.ofNat oo)), .val (.int (Int32.ofNat ee)), .val (.int (Int32.ofNat cs.length)), .val (.int (Int32.ofNat (ee - oo)))] [(.ref a1)])) rfl rfl (hb hby d19_35)
    refine OEnd.of st123 ?_
    show OEnd p e below _ (T123.setTop (mkF m 38 #[.val (.ref a1), .val (.int (Int32.ofNat oo)), .val (.int (Int32.ofNat ee)), .val (.int (Int32.ofNat cs.length)), .val (.int (Int32.ofNat (ee - oo)))] [(.ref to115)]))
    refine OEnd.of (fun tq kq => XS.iloadN X123.here hx rfl (hb hby d19_38) rfl kq) ?_
    show OEnd p e below _ (T123.setTop (mkF m 39 #[.val (.ref a1), .val (.int (Int32.ofNat oo)), .val (.int (Int32.ofNat ee)), .val (.int (Int32.ofNat cs.length)), .val (.int (Int32.ofNat (ee - oo)))] [(.int (Int32.ofNat oo)), (.ref to115)]))
    refine OEnd.of (fun tq kq => XS.iload X123.here hx rfl (hb hby d19_39) rfl kq) ?_
    show OEnd p e below _ (T123.setTop (mkF m 41 #[.val (.ref a1), .val (.int (Int32.ofNat oo)), .val (.int (Int32.ofNat ee)), .val (.int (Int32.ofNat cs.length)), .val (.int (Int32.ofNat (ee - oo)))] [(.int (Int32.ofNat (ee - oo))), (.int (Int32.ofNat oo)), (.ref to115)]))
    obtain ⟨_, vq124, ⟨T124, L124, k124, n124⟩, -, X124, S124, G124, ⟨Lc124, hQ124, l124, y124, z124, C124⟩, st124⟩ := callSS X123 hx (y := (⟨"java/lang/StringLatin1", "newString", "([BII)Ljava/lang/String;"⟩ : MethodName)) hown120 (mvT hZ120 (hw _ (List.mem_of_getElem? (i := 93) rfl))) (mvT hZ120 (hw _ (List.mem_of_getElem? (i := 94) rfl))) (mvT hZ120 (hw _ (List.mem_of_getElem? (i := 65) rfl))) (mvT hZ120 (hw _ (List.mem_of_getElem? (i := 95) rfl))) (by decide) (backOfSH (W := 0) (rmNst l Z a0 hw zc fm rt bl lg lv lk ci S_CS hzc S_SF h_fm S_RT E_rt F_bl E_bl F_lg E_lg F_lv A_lv S_CI E_ci hEL [] to115 ko115 cs oo (ee - oo) h0 O0 Ao115 Bo115 hl (by omega) h22) hZ120 (hw _ (List.mem_of_getElem? (i := 95) rfl)) (hw _ (List.mem_of_getElem? (i := 65) rfl)) (by decide) (by decide) hEL HR120.1) (g := (mkF m 41 #[.val (.ref a1), .val (.int (Int32.ofNat oo)), .val (.int (Int32.ofNat ee)), .val (.int (Int32.ofNat cs.length)), .val (.int (Int32.ofNat (ee - oo)))] [(.int (Int32.ofNat (ee - oo))), (.int (Int32.ofNat oo)), (.ref to115)])) rfl (by rw [hml]; rfl) (argsL := [(.ref to115), (.int (Int32.ofNat oo)), (.int (Int32.ofNat (ee - oo)))]) (rest := []) (lenOf pd_285bBII29Ljava2flang2fString3b rfl) rfl (by show 2 * 0 + _ ≤ _; exact Nat.le_of_eq rfl) (hb hby d19_41) (fun _ _ => ⟨rfl, e123, (by decide : 0 + 2 ≤ _), (by decide : 0 + 12 ≤ _)⟩)
    dsimp only [Pt.U, Pt.locs, Pt.cells, Pt.slots] at X124 l124 y124 z124 st124 hQ124 S124 G124 C124
    subst l124 y124 z124
    obtain ⟨h124, e124⟩ : ∃ z, T124.heap = z := ⟨_, rfl⟩
    rw [e124] at hQ124 C124
    obtain ⟨r_125, rfl, Nq124, Kq124, S_126⟩ := hQ124
    have N127 := Fr.app N122 Nq124
    obtain ⟨X124, S124, hZ124, hown124⟩ := rebS hS120 (by rw [e123]; exact hk120) X124 S124 G124 hZ120 hown120
    rw [e124] at S124
    have hk124 : h124.size ≤ h124.size := Nat.le_refl _
    have CR128 : CHr Z EL vm120 h0 T124.vm h124 := C124
    have HR129 : CHr Z EL s.vm h0 T124.vm h124 := HR120.trans CR128
    refine OEnd.of (fun tq kq => st124.trans kq) ?_
    show OEnd p e below _ (T124.setTop (mkF m 44 #[.val (.ref a1), .val (.int (Int32.ofNat oo)), .val (.int (Int32.ofNat ee)), .val (.int (Int32.ofNat cs.length)), .val (.int (Int32.ofNat (ee - oo)))] [(.ref r_125)]))
    refine OEnd.of (fun tq kq => XS.goto X124.here hx rfl (pc0 := 44) (pc' := 57) rfl (hb hby d19_44) (by decide) (by decide) kq) ?_
    show OEnd p e below _ (T124.setTop (mkF m 57 #[.val (.ref a1), .val (.int (Int32.ofNat oo)), .val (.int (Int32.ofNat ee)), .val (.int (Int32.ofNat cs.length)), .val (.int (Int32.ofNat (ee - oo)))] [(.ref r_125)]))
    have K130 : Keep h0 h124 [] := ((Keep.refl h0 []).trans Kq124 all0)
    exact OEnd.retAW X124 hx hlk e124 hh S124 hk124 hEL hZ124 HR129 hret rfl rfl (hb hby d19_57) ⟨r_125, rfl, N127, K130, S_126⟩ (by decide) (by decide)
  by_cases hc131 : (Int32.ofNat oo) = (0 : Int32)
  · refine OEnd.of (fun tq kq => XS.ifNo X118.here hx rfl (hb hby d19_12) rfl ((if0 _ _).trans (teq hc131).2) kq) ?_
    show OEnd p e below _ (T118.setTop (mkF m 15 #[.val (.ref a1), .val (.int (Int32.ofNat oo)), .val (.int (Int32.ofNat ee)), .val (.int (Int32.ofNat cs.length)), .unset] []))
    refine OEnd.of (fun tq kq => XS.iloadN X118.here hx rfl (hb hby d19_15) rfl kq) ?_
    show OEnd p e below _ (T118.setTop (mkF m 16 #[.val (.ref a1), .val (.int (Int32.ofNat oo)), .val (.int (Int32.ofNat ee)), .val (.int (Int32.ofNat cs.length)), .unset] [(.int (Int32.ofNat ee))]))
    refine OEnd.of (fun tq kq => XS.iloadN X118.here hx rfl (hb hby d19_16) rfl kq) ?_
    show OEnd p e below _ (T118.setTop (mkF m 17 #[.val (.ref a1), .val (.int (Int32.ofNat oo)), .val (.int (Int32.ofNat ee)), .val (.int (Int32.ofNat cs.length)), .unset] [(.int (Int32.ofNat cs.length)), (.int (Int32.ofNat ee))]))
    by_cases hc132 : (Int32.ofNat ee) = (Int32.ofNat cs.length)
    · refine OEnd.of (fun tq kq => XS.icmpNo X118.here hx rfl (hb hby d19_17) rfl (teq hc132).2 kq) ?_
      show OEnd p e below _ (T118.setTop (mkF m 20 #[.val (.ref a1), .val (.int (Int32.ofNat oo)), .val (.int (Int32.ofNat ee)), .val (.int (Int32.ofNat cs.length)), .unset] []))
      refine OEnd.of (fun tq kq => XS.aloadN X118.here hx rfl (hb hby d19_20) rfl rfl kq) ?_
      show OEnd p e below _ (T118.setTop (mkF m 21 #[.val (.ref a1), .val (.int (Int32.ofNat oo)), .val (.int (Int32.ofNat ee)), .val (.int (Int32.ofNat cs.length)), .unset] [(.ref a1)]))
      have Sy : IsStr Z h0 a1 ((cs.drop oo).take (ee - oo)) := by rw [own_dropAll ((own_eqN (by omega) (b := 0) (by omega)).mp hc131) ((own_eqN (by omega) (by omega)).mp hc132)]; exact Ss
      exact OEnd.retAW X118 hx hlk e118 hh hS0 hk0 hEL hZ HR0 hret rfl rfl (hb hby d19_21) ⟨a1, rfl, N119, (Keep.refl h0 []), Sy⟩ (by decide) (by decide)
    · refine OEnd.of (fun tq kq => XS.icmpYes X118.here hx rfl (pc0 := 17) (pc' := 22) rfl (hb hby d19_17) rfl (feq hc132).2 (by decide) (by decide) kq) ?_
      show OEnd p e below _ (T118.setTop (mkF m 22 #[.val (.ref a1), .val (.int (Int32.ofNat oo)), .val (.int (Int32.ofNat ee)), .val (.int (Int32.ofNat cs.length)), .unset] []))
      exact J120 _ T118 _ X118 e118 N119 ⟨_, hS0, hk0⟩ hZ hown HR0 (fun q => hc132 (by rw [own_eqN (by omega) (by omega)]; omega))
  · refine OEnd.of (fun tq kq => XS.ifYes X118.here hx rfl (pc0 := 12) (pc' := 22) rfl (hb hby d19_12) rfl ((if0 _ _).trans (feq hc131).2) (by decide) (by decide) kq) ?_
    show OEnd p e below _ (T118.setTop (mkF m 22 #[.val (.ref a1), .val (.int (Int32.ofNat oo)), .val (.int (Int32.ofNat ee)), .val (.int (Int32.ofNat cs.length)), .unset] []))
    exact J120 _ T118 _ X118 e118 N119 ⟨_, hS0, hk0⟩ hZ hown HR0 (fun q => hc131 (by rw [q.1]; rfl))
theorem d24_0 : decode jdk_43_method_36_code 0 = .ok (.aload_n 0, 1) := by decide +kernel
theorem d24_1 : decode jdk_43_method_36_code 1 = .ok (.arraylength, 1) := by decide +kernel
theorem d24_2 : decode jdk_43_method_36_code 2 = .ok (.istore_n 1, 1) := by decide +kernel
theorem d24_3 : decode jdk_43_method_36_code 3 = .ok (.iconst 0, 1) := by decide +kernel
theorem d24_4 : decode jdk_43_method_36_code 4 = .ok (.istore_n 2, 1) := by decide +kernel
theorem d24_5 : decode jdk_43_method_36_code 5 = .ok (.iload_n 2, 1) := by decide +kernel
theorem d24_6 : decode jdk_43_method_36_code 6 = .ok (.iload_n 1, 1) := by decide +kernel
theorem d24_7 : decode jdk_43_method_36_code 7 = .ok (.if_icmp .ge 21, 3) := by decide +kernel
theorem d24_10 : decode jdk_43_method_36_code 10 = .ok (.aload_n 0, 1) := by decide +kernel
theorem d24_11 : decode jdk_43_method_36_code 11 = .ok (.iload_n 2, 1) := by decide +kernel
theorem d24_12 : decode jdk_43_method_36_code 12 = .ok (.baload, 1) := by decide +kernel
theorem d24_13 : decode jdk_43_method_36_code 13 = .ok (.sipush 255, 3) := by decide +kernel
theorem d24_16 : decode jdk_43_method_36_code 16 = .ok (.iand, 1) := by decide +kernel
theorem d24_17 : decode jdk_43_method_36_code 17 = .ok (.bipush 32, 2) := by decide +kernel
theorem d24_19 : decode jdk_43_method_36_code 19 = .ok (.if_icmp .gt 9, 3) := by decide +kernel
theorem d24_22 : decode jdk_43_method_36_code 22 = .ok (.iinc 2 1, 3) := by decide +kernel
theorem d24_25 : decode jdk_43_method_36_code 25 = .ok (.goto (-20), 3) := by decide +kernel
theorem d24_28 : decode jdk_43_method_36_code 28 = .ok (.iload_n 2, 1) := by decide +kernel
theorem d24_29 : decode jdk_43_method_36_code 29 = .ok (.iload_n 1, 1) := by decide +kernel
theorem d24_30 : decode jdk_43_method_36_code 30 = .ok (.if_icmp .ge 23, 3) := by decide +kernel
theorem d24_33 : decode jdk_43_method_36_code 33 = .ok (.aload_n 0, 1) := by decide +kernel
theorem d24_34 : decode jdk_43_method_36_code 34 = .ok (.iload_n 1, 1) := by decide +kernel
theorem d24_35 : decode jdk_43_method_36_code 35 = .ok (.iconst 1, 1) := by decide +kernel
theorem d24_36 : decode jdk_43_method_36_code 36 = .ok (.isub, 1) := by decide +kernel
theorem d24_37 : decode jdk_43_method_36_code 37 = .ok (.baload, 1) := by decide +kernel
theorem d24_38 : decode jdk_43_method_36_code 38 = .ok (.sipush 255, 3) := by decide +kernel
theorem d24_41 : decode jdk_43_method_36_code 41 = .ok (.iand, 1) := by decide +kernel
theorem d24_42 : decode jdk_43_method_36_code 42 = .ok (.bipush 32, 2) := by decide +kernel
theorem d24_44 : decode jdk_43_method_36_code 44 = .ok (.if_icmp .gt 9, 3) := by decide +kernel
theorem d24_47 : decode jdk_43_method_36_code 47 = .ok (.iinc 1 (-1), 3) := by decide +kernel
theorem d24_50 : decode jdk_43_method_36_code 50 = .ok (.goto (-22), 3) := by decide +kernel
theorem d24_53 : decode jdk_43_method_36_code 53 = .ok (.iload_n 2, 1) := by decide +kernel
theorem d24_54 : decode jdk_43_method_36_code 54 = .ok (.ifCond .gt 9, 3) := by decide +kernel
theorem d24_57 : decode jdk_43_method_36_code 57 = .ok (.iload_n 1, 1) := by decide +kernel
theorem d24_58 : decode jdk_43_method_36_code 58 = .ok (.aload_n 0, 1) := by decide +kernel
theorem d24_59 : decode jdk_43_method_36_code 59 = .ok (.arraylength, 1) := by decide +kernel
theorem d24_60 : decode jdk_43_method_36_code 60 = .ok (.if_icmp .ge 14, 3) := by decide +kernel
theorem d24_63 : decode jdk_43_method_36_code 63 = .ok (.aload_n 0, 1) := by decide +kernel
theorem d24_64 : decode jdk_43_method_36_code 64 = .ok (.iload_n 2, 1) := by decide +kernel
theorem d24_65 : decode jdk_43_method_36_code 65 = .ok (.iload_n 1, 1) := by decide +kernel
theorem d24_66 : decode jdk_43_method_36_code 66 = .ok (.iload_n 2, 1) := by decide +kernel
theorem d24_67 : decode jdk_43_method_36_code 67 = .ok (.isub, 1) := by decide +kernel
theorem d24_68 : decode jdk_43_method_36_code 68 = .ok (.invokestatic 210, 3) := by decide +kernel
theorem d24_71 : decode jdk_43_method_36_code 71 = .ok (.goto 4, 3) := by decide +kernel
theorem d24_74 : decode jdk_43_method_36_code 74 = .ok (.aconst_null, 1) := by decide +kernel
theorem d24_75 : decode jdk_43_method_36_code 75 = .ok (.areturn, 1) := by decide +kernel
abbrev RMrmLTrim : Room := { frames := 4, cells := 2, slots := 12, locals := 70 }
theorem ef_rmLTrim (m : MethodId) (ta : Addr) : entryFrame m #[(.ref ta)] 3 = mkF m 0 #[.val (.ref ta), .unset, .unset] [] := by first | (simp [entryFrame, mkF, argsToLocals, Value.category]; done) | rfl
def QrmLTrim (Z : State) (zc : Int32) (fm : Value) (rt : Addr) (bl : Addr) (lg : Addr) (lv : Addr) (lk : ClassId) (ci : Addr) (ta : Addr) (kb : ClassId) (cs : List Int32) (h0 : Heap) (v : Option Value) (h : Heap) (L : List Loc) : Prop := ∃ (rv : Value) (lf : Nat) (rg : Nat), v = some rv ∧ Fr Z.heap.size L ∧ Keep h0 h [] ∧ (rv.isRef = true) ∧ (own_Tr cs lf rg) ∧ own_RV Z h rv ((cs.drop lf).take (rg - lf)) cs
set_option maxRecDepth 65536 in
set_option maxHeartbeats 40000000 in
theorem rmLTrim (l : Launch) (Z : State) (a0 : Array Value) (hw : ∀ d ∈ tables_1, d.before a0 Z = true) (zc : Int32) (fm : Value) (rt : Addr) (bl : Addr) (lg : Addr) (lv : Addr) (lk : ClassId) (ci : Addr) (S_CS : Sta Z Z.heap "java/lang/String" "COMPACT_STRINGS" "Z" (.int zc)) (hzc : ¬ zc = 0) (S_SF : Sta Z Z.heap "jdk/internal/util/Preconditions" "SIOOBE_FORMATTER" "Ljava/util/function/BiFunction;" fm) (h_fm : fm.isRef = true) (S_RT : Sta Z Z.heap "java/util/Locale" "ROOT" "Ljava/util/Locale;" (.ref rt)) (E_rt : Exa Z Z.heap rt "java/util/Locale") (F_bl : Fld Z Z.heap rt "java/util/Locale" "baseLocale" "Lsun/util/locale/BaseLocale;" (.ref bl)) (E_bl : Exa Z Z.heap bl "sun/util/locale/BaseLocale") (F_lg : Fld Z Z.heap bl "sun/util/locale/BaseLocale" "language" "Ljava/lang/String;" (.ref lg)) (E_lg : Exa Z Z.heap lg "java/lang/String") (F_lv : Fld Z Z.heap lg "java/lang/String" "value" "[B" (.ref lv)) (A_lv : Arv Z Z.heap lv lk .byte (0 : Int32) [] (.int (0 : Int32))) (S_CI : Sta Z Z.heap "java/lang/CharacterDataLatin1" "instance" "Ljava/lang/CharacterDataLatin1;" (.ref ci)) (E_ci : Exa Z Z.heap ci "java/lang/CharacterDataLatin1") (hEL : EW Z a0 EL) (ws : List Jvm.Cond) (ta : Addr) (kb : ClassId) (cs : List Int32) (h0 : Heap) (O0 : Ext Z.heap h0) (At : Arv Z h0 ta kb .byte (Int32.ofNat cs.length) (BB cs) (.int (0 : Int32))) (hcs : ∀ c ∈ cs, ¬ c < 0 ∧ ¬ (255 : Int32) < c) (hl : cs.length ≤ 8) :
    MetFree l (⟨"java/lang/StringLatin1", "trim", "([B)Ljava/lang/String;"⟩ : MethodName) (head1 (Jvm.Cond.code (⟨"java/lang/StringLatin1", "trim", "([B)Ljava/lang/String;"⟩ : MethodName) jdk_43_method_36_code 3 (some (.object "java/lang/String")) :: ws) RMrmLTrim) (fun a U => a = #[(.ref ta)] ∧ Z.Warmed39 U.vm ∧ U.heap = h0 ∧ CHv Z EL U.vm h0) (fun _ _ _ _ _ => True) (fun _ U o U' => ∃ v L, o = .returned v ∧ QrmLTrim Z zc fm rt bl lg lv lk ci ta kb cs h0 v U'.heap L ∧ CHr Z EL U.vm U.heap U'.vm U'.heap ∧ ReturnedEndW U o U' L RMrmLTrim.cells RMrmLTrim.slots) := by
  refine MetFree.of_bodySF (plainFor_of_name pn_java_lang_StringLatin1) hisR ?_
  intro p e s m args below meth c s₁ Bd hml0 hP hK
  obtain ⟨rfl, hZ, hh, hC0⟩ := hP
  have hx := Bd.exec
  have hby := Bd.bytes
  have hlk : meth.locks = false := BodyLoose.notSynchronized Bd
  have hret := Bd.returns
  have hml : c.maxLocals = 3 := hml0
  have hown : s.vm.findClass "java/lang/StringLatin1" = some m.cls := findClass_of_methodNamed Bd.named
  have hnm := (name_of_methodNamed Bd.named Bd.method).1
  have X0 : Stand p l e RMrmLTrim (s.setVm s.vm) m #[(.ref ta)] below meth c s₁ [] 0 0 := Stand.of_body Bd
  have e0 : s₁.heap = h0 := by rw [← hh, Bd.state]; rfl
  have N0 := Fr.nil Z.heap.size
  have hZ : Z.Warmed39 (s.setVm s.vm).vm := hZ
  have hS0 : s.Since s.vm h0.size := (State.WarmedH.refl s).since _
  have hk0 : h0.size ≤ h0.size := Nat.le_refl _
  have HR0 : CHr Z EL s.vm h0 s.vm h0 := CHr.refl hC0
  have hwS : ∀ d ∈ Bundle.stringAtoms, d.before a0 Z = true := fun d hd => hw d (own_strAtoms d hd)
  show OEnd p e below (GW s Z EL (QrmLTrim Z zc fm rt bl lg lv lk ci ta kb cs h0) RMrmLTrim.cells RMrmLTrim.slots) _
  refine OEnd.of (fun tq kq => castTop (ef_rmLTrim m ta) kq) ?_
  have hl4 : cs.length ≤ 4000 := Nat.le_trans hl (by decide)
  refine OEnd.of (fun tq kq => XS.aloadN X0.here hx rfl (hb hby d24_0) rfl rfl kq) ?_
  show OEnd p e below _ (s₁.setTop (mkF m 1 #[.val (.ref ta), .unset, .unset] [(.ref ta)]))
  have Vc133 := At
  obtain ⟨cl133, Ar133, -, S133, N133, -, -⟩ := Vc133
  refine OEnd.of (X0.arraylength hx (by rw [e0]; exact Ar133.1) (State.isArrayOf_alike hZ.alike Ar133.2.1) (g := (mkF m 1 #[.val (.ref ta), .unset, .unset] [(.ref ta)])) rfl rfl (hb hby d24_1)) ?_
  rw [len_of S133 N133]
  show OEnd p e below _ (s₁.setTop (mkF m 2 #[.val (.ref ta), .unset, .unset] [(.int (Int32.ofNat cs.length))]))
  refine OEnd.of (fun tq kq => XS.istoreN X0.here hx rfl (hb hby d24_2) rfl (l' := #[.val (.ref ta), .val (.int (Int32.ofNat cs.length)), .unset]) rfl kq) ?_
  show OEnd p e below _ (s₁.setTop (mkF m 3 #[.val (.ref ta), .val (.int (Int32.ofNat cs.length)), .unset] []))
  refine OEnd.of (fun tq kq => XS.iconst X0.here hx rfl (hb hby d24_3) kq) ?_
  show OEnd p e below _ (s₁.setTop (mkF m 4 #[.val (.ref ta), .val (.int (Int32.ofNat cs.length)), .unset] [(.int (0 : Int32))]))
  refine OEnd.of (fun tq kq => XS.istoreN X0.here hx rfl (hb hby d24_4) rfl (l' := #[.val (.ref ta), .val (.int (Int32.ofNat cs.length)), .val (.int (0 : Int32))]) rfl kq) ?_
  show OEnd p e below _ (s₁.setTop (mkF m 5 #[.val (.ref ta), .val (.int (Int32.ofNat cs.length)), .val (.int (0 : Int32))] []))
  have J134 : ∀ (vm134 : Vm) (T134 : State) (Lo134 : List Loc) (lf : Nat) (rg : Nat), Stand p l e RMrmLTrim (s.setVm vm134) m #[(.ref ta)] below meth c T134 Lo134 0 0 → T134.heap = h0 → Fr Z.heap.size Lo134 → (∃ k0, s.Since vm134 k0 ∧ k0 ≤ h0.size) → Z.Warmed39 (s.setVm vm134).vm → (s.setVm vm134).vm.findClass "java/lang/StringLatin1" = some m.cls → CHr Z EL s.vm h0 vm134 h0 → (own_Tr cs lf rg) → OEnd p e below (GW s Z EL (QrmLTrim Z zc fm rt bl lg lv lk ci ta kb cs h0) RMrmLTrim.cells RMrmLTrim.slots) (T134.setTop (mkF m 53 #[.val (.ref ta), .val (.int (Int32.ofNat rg)), .val (.int (Int32.ofNat lf))] [])) := by
    rintro vm134 T134 Lo134 lf rg X134 e134 N134 ⟨kk134, hS134, hk134⟩ hZ134 hown134 HR134 htr
    show OEnd p e below _ (T134.setTop (mkF m 53 #[.val (.ref ta), .val (.int (Int32.ofNat rg)), .val (.int (Int32.ofNat lf))] []))
    obtain ⟨g1, g2, -, -, -, -⟩ := id htr
    refine OEnd.of (fun tq kq => XS.iloadN X134.here hx rfl (hb hby d24_53) rfl kq) ?_
    show OEnd p e below _ (T134.setTop (mkF m 54 #[.val (.ref ta), .val (.int (Int32.ofNat rg)), .val (.int (Int32.ofNat lf))] [(.int (Int32.ofNat lf))]))
    have J135 : ∀ (vm135 : Vm) (T135 : State) (Lo135 : List Loc), Stand p l e RMrmLTrim (s.setVm vm135) m #[(.ref ta)] below meth c T135 Lo135 0 0 → T135.heap = h0 → Fr Z.heap.size Lo135 → (∃ k0, s.Since vm135 k0 ∧ k0 ≤ h0.size) → Z.Warmed39 (s.setVm vm135).vm → (s.setVm vm135).vm.findClass "java/lang/StringLatin1" = some m.cls → CHr Z EL s.vm h0 vm135 h0 → (¬ (lf = 0 ∧ rg - lf = cs.length)) → OEnd p e below (GW s Z EL (QrmLTrim Z zc fm rt bl lg lv lk ci ta kb cs h0) RMrmLTrim.cells RMrmLTrim.slots) (T135.setTop (mkF m 63 #[.val (.ref ta), .val (.int (Int32.ofNat rg)), .val (.int (Int32.ofNat lf))] [])) := by
      rintro vm135 T135 Lo135 X135 e135 N135 ⟨kk135, hS135, hk135⟩ hZ135 hown135 HR135 h63
      show OEnd p e below _ (T135.setTop (mkF m 63 #[.val (.ref ta), .val (.int (Int32.ofNat rg)), .val (.int (Int32.ofNat lf))] []))
      refine OEnd.of (fun tq kq => XS.aloadN X135.here hx rfl (hb hby d24_63) rfl rfl kq) ?_
      show OEnd p e below _ (T135.setTop (mkF m 64 #[.val (.ref ta), .val (.int (Int32.ofNat rg)), .val (.int (Int32.ofNat lf))] [(.ref ta)]))
      refine OEnd.of (fun tq kq => XS.iloadN X135.here hx rfl (hb hby d24_64) rfl kq) ?_
      show OEnd p e below _ (T135.setTop (mkF m 65 #[.val (.ref ta), .val (.int (Int32.ofNat rg)), .val (.int (Int32.ofNat lf))] [(.int (Int32.ofNat lf)), (.ref ta)]))
      refine OEnd.of (fun tq kq => XS.iloadN X135.here hx rfl (hb hby d24_65) rfl kq) ?_
      show OEnd p e below _ (T135.setTop (mkF m 66 #[.val (.ref ta), .val (.int (Int32.ofNat rg)), .val (.int (Int32.ofNat lf))] [(.int (Int32.ofNat rg)), (.int (Int32.ofNat lf)), (.ref ta)]))
      refine OEnd.of (fun tq kq => XS.iloadN X135.here hx rfl (hb hby d24_66) rfl kq) ?_
      show OEnd p e below _ (T135.setTop (mkF m 67 #[.val (.ref ta), .val (.int (Int32.ofNat rg)), .val (.int (Int32.ofNat lf))] [(.int (Int32.ofNat lf)), (.int (Int32.ofNat rg)), (.int (Int32.ofNat lf)), (.ref ta)]))
      refine OEnd.of (fun tq kq => XS.isub X135.here hx rfl (hb hby d24_67) rfl kq) ?_
      show OEnd p e below _ (T135.setTop (mkF m 68 #[.val (.ref ta), .val (.int (Int32.ofNat rg)), .val (.int (Int32.ofNat lf))] [(.int ((Int32.ofNat rg) - (Int32.ofNat lf))), (.int (Int32.ofNat lf)), (.ref ta)]))
      rw [show ((Int32.ofNat rg) - (Int32.ofNat lf)) = (Int32.ofNat (rg - lf)) from own_sub g1]
      show OEnd p e below _ (T135.setTop (mkF m 68 #[.val (.ref ta), .val (.int (Int32.ofNat rg)), .val (.int (Int32.ofNat lf))] [(.int (Int32.ofNat (rg - lf))), (.int (Int32.ofNat lf)), (.ref ta)]))
      obtain ⟨_, vq136, ⟨T136, L136, k136, n136⟩, -, X136, S136, G136, ⟨Lc136, hQ136, l136, y136, z136, C136⟩, st136⟩ := callSS X135 hx (y := (⟨"java/lang/StringLatin1", "newString", "([BII)Ljava/lang/String;"⟩ : MethodName)) hown135 (mvT hZ135 (hw _ (List.mem_of_getElem? (i := 140) rfl))) (mvT hZ135 (hw _ (List.mem_of_getElem? (i := 94) rfl))) (mvT hZ135 (hw _ (List.mem_of_getElem? (i := 65) rfl))) (mvT hZ135 (hw _ (List.mem_of_getElem? (i := 95) rfl))) (by decide) (backOfSH (W := 0) (rmNst l Z a0 hw zc fm rt bl lg lv lk ci S_CS hzc S_SF h_fm S_RT E_rt F_bl E_bl F_lg E_lg F_lv A_lv S_CI E_ci hEL [] ta kb cs lf (rg - lf) h0 O0 At hcs hl (by omega) h63) hZ135 (hw _ (List.mem_of_getElem? (i := 95) rfl)) (hw _ (List.mem_of_getElem? (i := 65) rfl)) (by decide) (by decide) hEL HR135.1) (g := (mkF m 68 #[.val (.ref ta), .val (.int (Int32.ofNat rg)), .val (.int (Int32.ofNat lf))] [(.int (Int32.ofNat (rg - lf))), (.int (Int32.ofNat lf)), (.ref ta)])) rfl (by rw [hml]; rfl) (argsL := [(.ref ta), (.int (Int32.ofNat lf)), (.int (Int32.ofNat (rg - lf)))]) (rest := []) (lenOf pd_285bBII29Ljava2flang2fString3b rfl) rfl (by show 2 * 0 + _ ≤ _; exact Nat.le_of_eq rfl) (hb hby d24_68) (fun _ _ => ⟨rfl, e135, (by decide : 0 + 2 ≤ _), (by decide : 0 + 12 ≤ _)⟩)
      dsimp only [Pt.U, Pt.locs, Pt.cells, Pt.slots] at X136 l136 y136 z136 st136 hQ136 S136 G136 C136
      subst l136 y136 z136
      obtain ⟨h136, e136⟩ : ∃ z, T136.heap = z := ⟨_, rfl⟩
      rw [e136] at hQ136 C136
      obtain ⟨r_137, rfl, Nq136, Kq136, S_138⟩ := hQ136
      have N139 := Fr.app N135 Nq136
      obtain ⟨X136, S136, hZ136, hown136⟩ := rebS hS135 (by rw [e135]; exact hk135) X136 S136 G136 hZ135 hown135
      rw [e136] at S136
      have hk136 : h136.size ≤ h136.size := Nat.le_refl _
      have CR140 : CHr Z EL vm135 h0 T136.vm h136 := C136
      have HR141 : CHr Z EL s.vm h0 T136.vm h136 := HR135.trans CR140
      refine OEnd.of (fun tq kq => st136.trans kq) ?_
      show OEnd p e below _ (T136.setTop (mkF m 71 #[.val (.ref ta), .val (.int (Int32.ofNat rg)), .val (.int (Int32.ofNat lf))] [(.ref r_137)]))
      refine OEnd.of (fun tq kq => XS.goto X136.here hx rfl (pc0 := 71) (pc' := 75) rfl (hb hby d24_71) (by decide) (by decide) kq) ?_
      show OEnd p e below _ (T136.setTop (mkF m 75 #[.val (.ref ta), .val (.int (Int32.ofNat rg)), .val (.int (Int32.ofNat lf))] [(.ref r_137)]))
      have SV : own_RV Z h136 (.ref r_137) ((cs.drop lf).take (rg - lf)) cs := Or.inr ⟨r_137, rfl, S_138⟩
      have K142 : Keep h0 h136 [] := ((Keep.refl h0 []).trans Kq136 all0)
      exact OEnd.retAW X136 hx hlk e136 hh S136 hk136 hEL hZ136 HR141 hret rfl rfl (hb hby d24_75) ⟨(.ref r_137), lf, rg, rfl, N139, K142, rfl, htr, SV⟩ (by decide) (by decide)
    by_cases hc143 : (0 : Int32) < (Int32.ofNat lf)
    · refine OEnd.of (fun tq kq => XS.ifYes X134.here hx rfl (pc0 := 54) (pc' := 63) rfl (hb hby d24_54) rfl ((if0 _ _).trans (tlt hc143).2.2.1) (by decide) (by decide) kq) ?_
      show OEnd p e below _ (T134.setTop (mkF m 63 #[.val (.ref ta), .val (.int (Int32.ofNat rg)), .val (.int (Int32.ofNat lf))] []))
      exact J135 _ T134 _ X134 e134 N134 ⟨_, hS134, hk134⟩ hZ134 hown134 HR134 (by have := (own_ltN (a := 0) (by omega) (by omega)).mp hc143; omega)
    · refine OEnd.of (fun tq kq => XS.ifNo X134.here hx rfl (hb hby d24_54) rfl ((if0 _ _).trans (flt hc143).2.2.1) kq) ?_
      show OEnd p e below _ (T134.setTop (mkF m 57 #[.val (.ref ta), .val (.int (Int32.ofNat rg)), .val (.int (Int32.ofNat lf))] []))
      refine OEnd.of (fun tq kq => XS.iloadN X134.here hx rfl (hb hby d24_57) rfl kq) ?_
      show OEnd p e below _ (T134.setTop (mkF m 58 #[.val (.ref ta), .val (.int (Int32.ofNat rg)), .val (.int (Int32.ofNat lf))] [(.int (Int32.ofNat rg))]))
      refine OEnd.of (fun tq kq => XS.aloadN X134.here hx rfl (hb hby d24_58) rfl rfl kq) ?_
      show OEnd p e below _ (T134.setTop (mkF m 59 #[.val (.ref ta), .val (.int (Int32.ofNat rg)), .val (.int (Int32.ofNat lf))] [(.ref ta), (.int (Int32.ofNat rg))]))
      have Vc144 := At
      obtain ⟨cl144, Ar144, -, S144, N144, -, -⟩ := Vc144
      refine OEnd.of (X134.arraylength hx (by rw [e134]; exact Ar144.1) (State.isArrayOf_alike hZ134.alike Ar144.2.1) (g := (mkF m 59 #[.val (.ref ta), .val (.int (Int32.ofNat rg)), .val (.int (Int32.ofNat lf))] [(.ref ta), (.int (Int32.ofNat rg))])) rfl rfl (hb hby d24_59)) ?_
      rw [len_of S144 N144]
      show OEnd p e below _ (T134.setTop (mkF m 60 #[.val (.ref ta), .val (.int (Int32.ofNat rg)), .val (.int (Int32.ofNat lf))] [(.int (Int32.ofNat cs.length)), (.int (Int32.ofNat rg))]))
      by_cases hc145 : (Int32.ofNat rg) < (Int32.ofNat cs.length)
      · refine OEnd.of (fun tq kq => XS.icmpNo X134.here hx rfl (hb hby d24_60) rfl (tlt hc145).2.1 kq) ?_
        show OEnd p e below _ (T134.setTop (mkF m 63 #[.val (.ref ta), .val (.int (Int32.ofNat rg)), .val (.int (Int32.ofNat lf))] []))
        exact J135 _ T134 _ X134 e134 N134 ⟨_, hS134, hk134⟩ hZ134 hown134 HR134 (by have := (own_ltN (by omega) (by omega)).mp hc145; omega)
      · refine OEnd.of (fun tq kq => XS.icmpYes X134.here hx rfl (pc0 := 60) (pc' := 74) rfl (hb hby d24_60) rfl (flt hc145).2.1 (by decide) (by decide) kq) ?_
        show OEnd p e below _ (T134.setTop (mkF m 74 #[.val (.ref ta), .val (.int (Int32.ofNat rg)), .val (.int (Int32.ofNat lf))] []))
        refine OEnd.of (fun tq kq => XS.aconstNull X134.here hx rfl (hb hby d24_74) kq) ?_
        show OEnd p e below _ (T134.setTop (mkF m 75 #[.val (.ref ta), .val (.int (Int32.ofNat rg)), .val (.int (Int32.ofNat lf))] [.null]))
        have SV : own_RV Z h0 .null ((cs.drop lf).take (rg - lf)) cs := Or.inl ⟨rfl, own_trAll (fun q => hc143 ((own_ltN (a := 0) (by omega) (by omega)).mpr q)) (fun q => hc145 ((own_ltN (by omega) (by omega)).mpr q)) g2⟩
        exact OEnd.retAW X134 hx hlk e134 hh hS134 hk134 hEL hZ134 HR134 hret rfl rfl (hb hby d24_75) ⟨.null, lf, rg, rfl, N134, (Keep.refl h0 []), rfl, htr, SV⟩ (by decide) (by decide)
  have J146 : ∀ (mm146 : Nat) (vm146 : Vm) (T146 : State) (Lo146 : List Loc) (lf : Nat) (rg : Nat), Stand p l e RMrmLTrim (s.setVm vm146) m #[(.ref ta)] below meth c T146 Lo146 0 0 → T146.heap = h0 → Fr Z.heap.size Lo146 → (∃ k0, s.Since vm146 k0 ∧ k0 ≤ h0.size) → Z.Warmed39 (s.setVm vm146).vm → (s.setVm vm146).vm.findClass "java/lang/StringLatin1" = some m.cls → CHr Z EL s.vm h0 vm146 h0 → (∀ j, j < lf → ¬ (32 : Int32) < cs.getD j 0) → (lf < cs.length → (32 : Int32) < cs.getD lf 0) → (lf ≤ rg) → (rg ≤ cs.length) → (∀ j, rg ≤ j → j < cs.length → ¬ (32 : Int32) < cs.getD j 0) → (rg = mm146) → OEnd p e below (GW s Z EL (QrmLTrim Z zc fm rt bl lg lv lk ci ta kb cs h0) RMrmLTrim.cells RMrmLTrim.slots) (T146.setTop (mkF m 28 #[.val (.ref ta), .val (.int (Int32.ofNat rg)), .val (.int (Int32.ofNat lf))] [])) := by
    intro mm146
    induction mm146 using Nat.strongRecOn with
    | ind mm146 ih146 =>
      rintro vm146 T146 Lo146 lf rg X146 e146 N146 ⟨kk146, hS146, hk146⟩ hZ146 hown146 HR146 hA hB hlr hr hC hm146
      show OEnd p e below _ (T146.setTop (mkF m 28 #[.val (.ref ta), .val (.int (Int32.ofNat rg)), .val (.int (Int32.ofNat lf))] []))
      refine OEnd.of (fun tq kq => XS.iloadN X146.here hx rfl (hb hby d24_28) rfl kq) ?_
      show OEnd p e below _ (T146.setTop (mkF m 29 #[.val (.ref ta), .val (.int (Int32.ofNat rg)), .val (.int (Int32.ofNat lf))] [(.int (Int32.ofNat lf))]))
      refine OEnd.of (fun tq kq => XS.iloadN X146.here hx rfl (hb hby d24_29) rfl kq) ?_
      show OEnd p e below _ (T146.setTop (mkF m 30 #[.val (.ref ta), .val (.int (Int32.ofNat rg)), .val (.int (Int32.ofNat lf))] [(.int (Int32.ofNat rg)), (.int (Int32.ofNat lf))]))
      by_cases hc147 : (Int32.ofNat lf) < (Int32.ofNat rg)
      · refine OEnd.of (fun tq kq => XS.icmpNo X146.here hx rfl (hb hby d24_30) rfl (tlt hc147).2.1 kq) ?_
        show OEnd p e below _ (T146.setTop (mkF m 33 #[.val (.ref ta), .val (.int (Int32.ofNat rg)), .val (.int (Int32.ofNat lf))] []))
        have hlr2 : lf < rg := (own_ltN (by omega) (by omega)).mp hc147
        have hk1 : rg - 1 < cs.length := by omega
        refine OEnd.of (fun tq kq => XS.aloadN X146.here hx rfl (hb hby d24_33) rfl rfl kq) ?_
        show OEnd p e below _ (T146.setTop (mkF m 34 #[.val (.ref ta), .val (.int (Int32.ofNat rg)), .val (.int (Int32.ofNat lf))] [(.ref ta)]))
        refine OEnd.of (fun tq kq => XS.iloadN X146.here hx rfl (hb hby d24_34) rfl kq) ?_
        show OEnd p e below _ (T146.setTop (mkF m 35 #[.val (.ref ta), .val (.int (Int32.ofNat rg)), .val (.int (Int32.ofNat lf))] [(.int (Int32.ofNat rg)), (.ref ta)]))
        refine OEnd.of (fun tq kq => XS.iconst X146.here hx rfl (hb hby d24_35) kq) ?_
        show OEnd p e below _ (T146.setTop (mkF m 36 #[.val (.ref ta), .val (.int (Int32.ofNat rg)), .val (.int (Int32.ofNat lf))] [(.int (1 : Int32)), (.int (Int32.ofNat rg)), (.ref ta)]))
        refine OEnd.of (fun tq kq => XS.isub X146.here hx rfl (hb hby d24_36) rfl kq) ?_
        show OEnd p e below _ (T146.setTop (mkF m 37 #[.val (.ref ta), .val (.int (Int32.ofNat rg)), .val (.int (Int32.ofNat lf))] [(.int ((Int32.ofNat rg) - (1 : Int32))), (.ref ta)]))
        rw [show ((Int32.ofNat rg) - (1 : Int32)) = (Int32.ofNat (rg - 1)) from own_dec (by omega)]
        show OEnd p e below _ (T146.setTop (mkF m 37 #[.val (.ref ta), .val (.int (Int32.ofNat rg)), .val (.int (Int32.ofNat lf))] [(.int (Int32.ofNat (rg - 1))), (.ref ta)]))
        have Vc148 := At
        obtain ⟨cl148, Ar148, q148, S148, N148, H148, G148⟩ := Vc148
        have hin148 : ¬ ((Int32.ofNat (rg - 1)) < 0 ∨ cl148.slots.size ≤ ((Int32.ofNat (rg - 1))).toNatClampNeg) := own_inB S148 hk1 hl4
        refine OEnd.of (X146.baloadBytes hx (j := (Int32.ofNat (rg - 1))) (v := (.int ((cs.getD (rg - 1) 0).toInt8.toInt32))) (by rw [e146]; exact Ar148.1) (State.isArrayOf_alike hZ146.alike Ar148.2.1) Ar148.2.2 hin148 (H148.at hin148 (own_getB hk1 hl4)) (g := (mkF m 37 #[.val (.ref ta), .val (.int (Int32.ofNat rg)), .val (.int (Int32.ofNat lf))] [(.int (Int32.ofNat (rg - 1))), (.ref ta)])) rfl rfl (hb hby d24_37)) ?_
        show OEnd p e below _ (T146.setTop (mkF m 38 #[.val (.ref ta), .val (.int (Int32.ofNat rg)), .val (.int (Int32.ofNat lf))] [(.int ((cs.getD (rg - 1) 0).toInt8.toInt32))]))
        refine OEnd.of (fun tq kq => XS.sipush X146.here hx rfl (hb hby d24_38) kq) ?_
        show OEnd p e below _ (T146.setTop (mkF m 41 #[.val (.ref ta), .val (.int (Int32.ofNat rg)), .val (.int (Int32.ofNat lf))] [(.int (255 : Int32)), (.int ((cs.getD (rg - 1) 0).toInt8.toInt32))]))
        refine OEnd.of (fun tq kq => XS.iand X146.here hx rfl (hb hby d24_41) rfl kq) ?_
        show OEnd p e below _ (T146.setTop (mkF m 42 #[.val (.ref ta), .val (.int (Int32.ofNat rg)), .val (.int (Int32.ofNat lf))] [(.int (((cs.getD (rg - 1) 0).toInt8.toInt32) &&& (255 : Int32)))]))
        rw [show (((cs.getD (rg - 1) 0).toInt8.toInt32) &&& (255 : Int32)) = (cs.getD (rg - 1) 0) from own_lo8 (own_rng hcs (rg - 1))]
        show OEnd p e below _ (T146.setTop (mkF m 42 #[.val (.ref ta), .val (.int (Int32.ofNat rg)), .val (.int (Int32.ofNat lf))] [(.int (cs.getD (rg - 1) 0))]))
        refine OEnd.of (fun tq kq => XS.bipush X146.here hx rfl (hb hby d24_42) kq) ?_
        show OEnd p e below _ (T146.setTop (mkF m 44 #[.val (.ref ta), .val (.int (Int32.ofNat rg)), .val (.int (Int32.ofNat lf))] [(.int (32 : Int32)), (.int (cs.getD (rg - 1) 0))]))
        by_cases hc149 : (32 : Int32) < (cs.getD (rg - 1) 0)
        · refine OEnd.of (fun tq kq => XS.icmpYes X146.here hx rfl (pc0 := 44) (pc' := 53) rfl (hb hby d24_44) rfl (tlt hc149).2.2.1 (by decide) (by decide) kq) ?_
          show OEnd p e below _ (T146.setTop (mkF m 53 #[.val (.ref ta), .val (.int (Int32.ofNat rg)), .val (.int (Int32.ofNat lf))] []))
          exact J134 _ T146 _ lf rg X146 e146 N146 ⟨_, hS146, hk146⟩ hZ146 hown146 HR146 ⟨hlr, hr, hA, hB, hC, fun _ => hc149⟩
        · refine OEnd.of (fun tq kq => XS.icmpNo X146.here hx rfl (hb hby d24_44) rfl (flt hc149).2.2.1 kq) ?_
          show OEnd p e below _ (T146.setTop (mkF m 47 #[.val (.ref ta), .val (.int (Int32.ofNat rg)), .val (.int (Int32.ofNat lf))] []))
          refine OEnd.of (fun tq kq => XS.iinc X146.here hx rfl (hb hby d24_47) rfl (l' := #[.val (.ref ta), .val (.int ((Int32.ofNat rg) + (-1 : Int32))), .val (.int (Int32.ofNat lf))]) rfl kq) ?_
          show OEnd p e below _ (T146.setTop (mkF m 50 #[.val (.ref ta), .val (.int ((Int32.ofNat rg) + (-1 : Int32))), .val (.int (Int32.ofNat lf))] []))
          refine OEnd.of (fun tq kq => XS.goto X146.here hx rfl (pc0 := 50) (pc' := 28) rfl (hb hby d24_50) (by decide) (by decide) kq) ?_
          show OEnd p e below _ (T146.setTop (mkF m 28 #[.val (.ref ta), .val (.int ((Int32.ofNat rg) + (-1 : Int32))), .val (.int (Int32.ofNat lf))] []))
          rw [show ((Int32.ofNat rg) + (-1 : Int32)) = (Int32.ofNat (rg - 1)) from own_decm (by omega)]
          show OEnd p e below _ (T146.setTop (mkF m 28 #[.val (.ref ta), .val (.int (Int32.ofNat (rg - 1))), .val (.int (Int32.ofNat lf))] []))
          exact ih146 _ (by omega) _ T146 _ lf (rg - 1) X146 e146 N146 ⟨_, hS146, hk146⟩ hZ146 hown146 HR146 hA hB (by omega) (by omega) (fun j h1 h2 => if q : rg ≤ j then hC j q h2 else (show j = rg - 1 by omega) ▸ hc149) rfl
      · refine OEnd.of (fun tq kq => XS.icmpYes X146.here hx rfl (pc0 := 30) (pc' := 53) rfl (hb hby d24_30) rfl (flt hc147).2.1 (by decide) (by decide) kq) ?_
        show OEnd p e below _ (T146.setTop (mkF m 53 #[.val (.ref ta), .val (.int (Int32.ofNat rg)), .val (.int (Int32.ofNat lf))] []))
        have hlr2 : ¬ lf < rg := fun q => hc147 ((own_ltN (by omega) (by omega)).mpr q)
        exact J134 _ T146 _ lf rg X146 e146 N146 ⟨_, hS146, hk146⟩ hZ146 hown146 HR146 ⟨hlr, hr, hA, hB, hC, fun q => absurd q hlr2⟩
  have J150 : ∀ (mm150 : Nat) (vm150 : Vm) (T150 : State) (Lo150 : List Loc) (lf : Nat), Stand p l e RMrmLTrim (s.setVm vm150) m #[(.ref ta)] below meth c T150 Lo150 0 0 → T150.heap = h0 → Fr Z.heap.size Lo150 → (∃ k0, s.Since vm150 k0 ∧ k0 ≤ h0.size) → Z.Warmed39 (s.setVm vm150).vm → (s.setVm vm150).vm.findClass "java/lang/StringLatin1" = some m.cls → CHr Z EL s.vm h0 vm150 h0 → (lf ≤ cs.length) → (∀ j, j < lf → ¬ (32 : Int32) < cs.getD j 0) → (cs.length - lf = mm150) → OEnd p e below (GW s Z EL (QrmLTrim Z zc fm rt bl lg lv lk ci ta kb cs h0) RMrmLTrim.cells RMrmLTrim.slots) (T150.setTop (mkF m 5 #[.val (.ref ta), .val (.int (Int32.ofNat cs.length)), .val (.int (Int32.ofNat lf))] [])) := by
    intro mm150
    induction mm150 using Nat.strongRecOn with
    | ind mm150 ih150 =>
      rintro vm150 T150 Lo150 lf X150 e150 N150 ⟨kk150, hS150, hk150⟩ hZ150 hown150 HR150 hl1 hA hm150
      show OEnd p e below _ (T150.setTop (mkF m 5 #[.val (.ref ta), .val (.int (Int32.ofNat cs.length)), .val (.int (Int32.ofNat lf))] []))
      refine OEnd.of (fun tq kq => XS.iloadN X150.here hx rfl (hb hby d24_5) rfl kq) ?_
      show OEnd p e below _ (T150.setTop (mkF m 6 #[.val (.ref ta), .val (.int (Int32.ofNat cs.length)), .val (.int (Int32.ofNat lf))] [(.int (Int32.ofNat lf))]))
      refine OEnd.of (fun tq kq => XS.iloadN X150.here hx rfl (hb hby d24_6) rfl kq) ?_
      show OEnd p e below _ (T150.setTop (mkF m 7 #[.val (.ref ta), .val (.int (Int32.ofNat cs.length)), .val (.int (Int32.ofNat lf))] [(.int (Int32.ofNat cs.length)), (.int (Int32.ofNat lf))]))
      by_cases hc151 : (Int32.ofNat lf) < (Int32.ofNat cs.length)
      · refine OEnd.of (fun tq kq => XS.icmpNo X150.here hx rfl (hb hby d24_7) rfl (tlt hc151).2.1 kq) ?_
        show OEnd p e below _ (T150.setTop (mkF m 10 #[.val (.ref ta), .val (.int (Int32.ofNat cs.length)), .val (.int (Int32.ofNat lf))] []))
        have hk1 : lf < cs.length := (own_ltN (by omega) (by omega)).mp hc151
        refine OEnd.of (fun tq kq => XS.aloadN X150.here hx rfl (hb hby d24_10) rfl rfl kq) ?_
        show OEnd p e below _ (T150.setTop (mkF m 11 #[.val (.ref ta), .val (.int (Int32.ofNat cs.length)), .val (.int (Int32.ofNat lf))] [(.ref ta)]))
        refine OEnd.of (fun tq kq => XS.iloadN X150.here hx rfl (hb hby d24_11) rfl kq) ?_
        show OEnd p e below _ (T150.setTop (mkF m 12 #[.val (.ref ta), .val (.int (Int32.ofNat cs.length)), .val (.int (Int32.ofNat lf))] [(.int (Int32.ofNat lf)), (.ref ta)]))
        have Vc152 := At
        obtain ⟨cl152, Ar152, q152, S152, N152, H152, G152⟩ := Vc152
        have hin152 : ¬ ((Int32.ofNat lf) < 0 ∨ cl152.slots.size ≤ ((Int32.ofNat lf)).toNatClampNeg) := own_inB S152 hk1 hl4
        refine OEnd.of (X150.baloadBytes hx (j := (Int32.ofNat lf)) (v := (.int ((cs.getD lf 0).toInt8.toInt32))) (by rw [e150]; exact Ar152.1) (State.isArrayOf_alike hZ150.alike Ar152.2.1) Ar152.2.2 hin152 (H152.at hin152 (own_getB hk1 hl4)) (g := (mkF m 12 #[.val (.ref ta), .val (.int (Int32.ofNat cs.length)), .val (.int (Int32.ofNat lf))] [(.int (Int32.ofNat lf)), (.ref ta)])) rfl rfl (hb hby d24_12)) ?_
        show OEnd p e below _ (T150.setTop (mkF m 13 #[.val (.ref ta), .val (.int (Int32.ofNat cs.length)), .val (.int (Int32.ofNat lf))] [(.int ((cs.getD lf 0).toInt8.toInt32))]))
        refine OEnd.of (fun tq kq => XS.sipush X150.here hx rfl (hb hby d24_13) kq) ?_
        show OEnd p e below _ (T150.setTop (mkF m 16 #[.val (.ref ta), .val (.int (Int32.ofNat cs.length)), .val (.int (Int32.ofNat lf))] [(.int (255 : Int32)), (.int ((cs.getD lf 0).toInt8.toInt32))]))
        refine OEnd.of (fun tq kq => XS.iand X150.here hx rfl (hb hby d24_16) rfl kq) ?_
        show OEnd p e below _ (T150.setTop (mkF m 17 #[.val (.ref ta), .val (.int (Int32.ofNat cs.length)), .val (.int (Int32.ofNat lf))] [(.int (((cs.getD lf 0).toInt8.toInt32) &&& (255 : Int32)))]))
        rw [show (((cs.getD lf 0).toInt8.toInt32) &&& (255 : Int32)) = (cs.getD lf 0) from own_lo8 (own_rng hcs lf)]
        show OEnd p e below _ (T150.setTop (mkF m 17 #[.val (.ref ta), .val (.int (Int32.ofNat cs.length)), .val (.int (Int32.ofNat lf))] [(.int (cs.getD lf 0))]))
        refine OEnd.of (fun tq kq => XS.bipush X150.here hx rfl (hb hby d24_17) kq) ?_
        show OEnd p e below _ (T150.setTop (mkF m 19 #[.val (.ref ta), .val (.int (Int32.ofNat cs.length)), .val (.int (Int32.ofNat lf))] [(.int (32 : Int32)), (.int (cs.getD lf 0))]))
        by_cases hc153 : (32 : Int32) < (cs.getD lf 0)
        · refine OEnd.of (fun tq kq => XS.icmpYes X150.here hx rfl (pc0 := 19) (pc' := 28) rfl (hb hby d24_19) rfl (tlt hc153).2.2.1 (by decide) (by decide) kq) ?_
          show OEnd p e below _ (T150.setTop (mkF m 28 #[.val (.ref ta), .val (.int (Int32.ofNat cs.length)), .val (.int (Int32.ofNat lf))] []))
          exact J146 _ _ T150 _ lf cs.length X150 e150 N150 ⟨_, hS150, hk150⟩ hZ150 hown150 HR150 hA (fun _ => hc153) (by omega) (Nat.le_refl _) (fun j h1 h2 => absurd h2 (by omega)) rfl
        · refine OEnd.of (fun tq kq => XS.icmpNo X150.here hx rfl (hb hby d24_19) rfl (flt hc153).2.2.1 kq) ?_
          show OEnd p e below _ (T150.setTop (mkF m 22 #[.val (.ref ta), .val (.int (Int32.ofNat cs.length)), .val (.int (Int32.ofNat lf))] []))
          refine OEnd.of (fun tq kq => XS.iinc X150.here hx rfl (hb hby d24_22) rfl (l' := #[.val (.ref ta), .val (.int (Int32.ofNat cs.length)), .val (.int ((Int32.ofNat lf) + (1 : Int32)))]) rfl kq) ?_
          show OEnd p e below _ (T150.setTop (mkF m 25 #[.val (.ref ta), .val (.int (Int32.ofNat cs.length)), .val (.int ((Int32.ofNat lf) + (1 : Int32)))] []))
          refine OEnd.of (fun tq kq => XS.goto X150.here hx rfl (pc0 := 25) (pc' := 5) rfl (hb hby d24_25) (by decide) (by decide) kq) ?_
          show OEnd p e below _ (T150.setTop (mkF m 5 #[.val (.ref ta), .val (.int (Int32.ofNat cs.length)), .val (.int ((Int32.ofNat lf) + (1 : Int32)))] []))
          rw [show ((Int32.ofNat lf) + (1 : Int32)) = (Int32.ofNat (lf + 1)) from own_inc lf]
          show OEnd p e below _ (T150.setTop (mkF m 5 #[.val (.ref ta), .val (.int (Int32.ofNat cs.length)), .val (.int (Int32.ofNat (lf + 1)))] []))
          exact ih150 _ (by omega) _ T150 _ (lf + 1) X150 e150 N150 ⟨_, hS150, hk150⟩ hZ150 hown150 HR150 hk1 (fun j hj => (Nat.lt_succ_iff_lt_or_eq.mp hj).elim (hA j) (fun q => q ▸ hc153)) rfl
      · refine OEnd.of (fun tq kq => XS.icmpYes X150.here hx rfl (pc0 := 7) (pc' := 28) rfl (hb hby d24_7) rfl (flt hc151).2.1 (by decide) (by decide) kq) ?_
        show OEnd p e below _ (T150.setTop (mkF m 28 #[.val (.ref ta), .val (.int (Int32.ofNat cs.length)), .val (.int (Int32.ofNat lf))] []))
        have hk2 : ¬ lf < cs.length := fun q => hc151 ((own_ltN (by omega) (by omega)).mpr q)
        exact J146 _ _ T150 _ lf cs.length X150 e150 N150 ⟨_, hS150, hk150⟩ hZ150 hown150 HR150 hA (fun q => absurd q hk2) (by omega) (Nat.le_refl _) (fun j h1 h2 => absurd h2 (by omega)) rfl
  exact J150 _ _ s₁ _ 0 X0 e0 N0 ⟨_, hS0, hk0⟩ hZ hown HR0 (Nat.zero_le _) (fun j hj => absurd hj (Nat.not_lt_zero j)) rfl
theorem pd_285bB29Ljava2flang2fString3b : parseMethodDescriptor "([B)Ljava/lang/String;" = some ⟨[(.array .byte)], some (.object "java/lang/String")⟩ := by decide +kernel
theorem d23_0 : decode jdk_42_method_113_code 0 = .ok (.aload_n 0, 1) := by decide +kernel
theorem d23_1 : decode jdk_42_method_113_code 1 = .ok (.invokevirtual 492, 3) := by decide +kernel
theorem d23_4 : decode jdk_42_method_113_code 4 = .ok (.ifCond .eq 13, 3) := by decide +kernel
theorem d23_7 : decode jdk_42_method_113_code 7 = .ok (.aload_n 0, 1) := by decide +kernel
theorem d23_8 : decode jdk_42_method_113_code 8 = .ok (.getfield 9, 3) := by decide +kernel
theorem d23_11 : decode jdk_42_method_113_code 11 = .ok (.invokestatic 859, 3) := by decide +kernel
theorem d23_14 : decode jdk_42_method_113_code 14 = .ok (.goto 10, 3) := by decide +kernel
theorem d23_24 : decode jdk_42_method_113_code 24 = .ok (.astore_n 1, 1) := by decide +kernel
theorem d23_25 : decode jdk_42_method_113_code 25 = .ok (.aload_n 1, 1) := by decide +kernel
theorem d23_26 : decode jdk_42_method_113_code 26 = .ok (.ifnonnull 7, 3) := by decide +kernel
theorem d23_29 : decode jdk_42_method_113_code 29 = .ok (.aload_n 0, 1) := by decide +kernel
theorem d23_30 : decode jdk_42_method_113_code 30 = .ok (.goto 4, 3) := by decide +kernel
theorem d23_33 : decode jdk_42_method_113_code 33 = .ok (.aload_n 1, 1) := by decide +kernel
theorem d23_34 : decode jdk_42_method_113_code 34 = .ok (.areturn, 1) := by decide +kernel
abbrev RMrmTrim : Room := { frames := 5, cells := 2, slots := 12, locals := 84 }
theorem ef_rmTrim (m : MethodId) (a1 : Addr) : entryFrame m #[(.ref a1)] 2 = mkF m 0 #[.val (.ref a1), .unset] [] := by first | (simp [entryFrame, mkF, argsToLocals, Value.category]; done) | rfl
def QrmTrim (Z : State) (zc : Int32) (fm : Value) (rt : Addr) (bl : Addr) (lg : Addr) (lv : Addr) (lk : ClassId) (ci : Addr) (a1 : Addr) (cs : List Int32) (h0 : Heap) (v : Option Value) (h : Heap) (L : List Loc) : Prop := ∃ (ra : Addr) (lf : Nat) (rg : Nat), v = some (.ref ra) ∧ Fr Z.heap.size L ∧ Keep h0 h [] ∧ (own_Tr cs lf rg) ∧ IsStr Z h ra ((cs.drop lf).take (rg - lf))
set_option maxRecDepth 65536 in
set_option maxHeartbeats 40000000 in
theorem rmTrim (l : Launch) (Z : State) (a0 : Array Value) (hw : ∀ d ∈ tables_1, d.before a0 Z = true) (zc : Int32) (fm : Value) (rt : Addr) (bl : Addr) (lg : Addr) (lv : Addr) (lk : ClassId) (ci : Addr) (S_CS : Sta Z Z.heap "java/lang/String" "COMPACT_STRINGS" "Z" (.int zc)) (hzc : ¬ zc = 0) (S_SF : Sta Z Z.heap "jdk/internal/util/Preconditions" "SIOOBE_FORMATTER" "Ljava/util/function/BiFunction;" fm) (h_fm : fm.isRef = true) (S_RT : Sta Z Z.heap "java/util/Locale" "ROOT" "Ljava/util/Locale;" (.ref rt)) (E_rt : Exa Z Z.heap rt "java/util/Locale") (F_bl : Fld Z Z.heap rt "java/util/Locale" "baseLocale" "Lsun/util/locale/BaseLocale;" (.ref bl)) (E_bl : Exa Z Z.heap bl "sun/util/locale/BaseLocale") (F_lg : Fld Z Z.heap bl "sun/util/locale/BaseLocale" "language" "Ljava/lang/String;" (.ref lg)) (E_lg : Exa Z Z.heap lg "java/lang/String") (F_lv : Fld Z Z.heap lg "java/lang/String" "value" "[B" (.ref lv)) (A_lv : Arv Z Z.heap lv lk .byte (0 : Int32) [] (.int (0 : Int32))) (S_CI : Sta Z Z.heap "java/lang/CharacterDataLatin1" "instance" "Ljava/lang/CharacterDataLatin1;" (.ref ci)) (E_ci : Exa Z Z.heap ci "java/lang/CharacterDataLatin1") (hEL : EW Z a0 EL) (ws : List Jvm.Cond) (a1 : Addr) (cs : List Int32) (h0 : Heap) (O0 : Ext Z.heap h0) (Ss : IsStr Z h0 a1 cs) (hl : cs.length ≤ 8) :
    MetFree l (⟨"java/lang/String", "trim", "()Ljava/lang/String;"⟩ : MethodName) (head1 (Jvm.Cond.code (⟨"java/lang/String", "trim", "()Ljava/lang/String;"⟩ : MethodName) jdk_42_method_113_code 2 (some (.object "java/lang/String")) :: ws) RMrmTrim) (fun a U => a = #[(.ref a1)] ∧ Z.Warmed39 U.vm ∧ U.heap = h0 ∧ CHv Z EL U.vm h0) (fun _ _ _ _ _ => True) (fun _ U o U' => ∃ v L, o = .returned v ∧ QrmTrim Z zc fm rt bl lg lv lk ci a1 cs h0 v U'.heap L ∧ CHr Z EL U.vm U.heap U'.vm U'.heap ∧ ReturnedEndW U o U' L RMrmTrim.cells RMrmTrim.slots) := by
  refine MetFree.of_bodySF (plainFor_of_name pn_java_lang_String) hisR ?_
  intro p e s m args below meth c s₁ Bd hml0 hP hK
  obtain ⟨rfl, hZ, hh, hC0⟩ := hP
  have hx := Bd.exec
  have hby := Bd.bytes
  have hlk : meth.locks = false := BodyLoose.notSynchronized Bd
  have hret := Bd.returns
  have hml : c.maxLocals = 2 := hml0
  have hown : s.vm.findClass "java/lang/String" = some m.cls := findClass_of_methodNamed Bd.named
  have hnm := (name_of_methodNamed Bd.named Bd.method).1
  have X0 : Stand p l e RMrmTrim (s.setVm s.vm) m #[(.ref a1)] below meth c s₁ [] 0 0 := Stand.of_body Bd
  have e0 : s₁.heap = h0 := by rw [← hh, Bd.state]; rfl
  have N0 := Fr.nil Z.heap.size
  have hZ : Z.Warmed39 (s.setVm s.vm).vm := hZ
  have hS0 : s.Since s.vm h0.size := (State.WarmedH.refl s).since _
  have hk0 : h0.size ≤ h0.size := Nat.le_refl _
  have HR0 : CHr Z EL s.vm h0 s.vm h0 := CHr.refl hC0
  have hwS : ∀ d ∈ Bundle.stringAtoms, d.before a0 Z = true := fun d hd => hw d (own_strAtoms d hd)
  show OEnd p e below (GW s Z EL (QrmTrim Z zc fm rt bl lg lv lk ci a1 cs h0) RMrmTrim.cells RMrmTrim.slots) _
  refine OEnd.of (fun tq kq => castTop (ef_rmTrim m a1) kq) ?_
  have So154 := Ss
  obtain ⟨Eo154, Co154, ⟨to154, ko154, Vo154, Ao154⟩, Bo154, lo154⟩ := So154
  refine OEnd.of (fun tq kq => XS.aloadN X0.here hx rfl (hb hby d23_0) rfl rfl kq) ?_
  show OEnd p e below _ (s₁.setTop (mkF m 1 #[.val (.ref a1), .unset] [(.ref a1)]))
  obtain ⟨cq155, kq155, q155a, q155b, q155c⟩ := isOf hZ e0 Eo154
  obtain ⟨_, _, ⟨T155, L155, k155, n155⟩, -, X155, ⟨Lc155, hQ155, l155, y155, z155⟩, st155⟩ := X0.virtualBack hx (y := (⟨"java/lang/String", "isLatin1", "()Z"⟩ : MethodName)) (z := (⟨"java/lang/String", "isLatin1", "()Z"⟩ : MethodName)) hown (mvT hZ (hw _ (List.mem_of_getElem? (i := 48) rfl))) (mvT hZ (hw _ (List.mem_of_getElem? (i := 49) rfl))) (notFace_of_selects (args := #[]) (mvT hZ (hw _ (List.mem_of_getElem? (i := 51) rfl)))) (mvT hZ (hw _ (List.mem_of_getElem? (i := 51) rfl))) (mvT hZ (hw _ (List.mem_of_getElem? (i := 50) rfl))) (by decide) (backOf (W := 0) (rmIsl l Z a0 hw zc fm rt bl lg lv lk ci S_CS hzc S_SF h_fm S_RT E_rt F_bl E_bl F_lg E_lg F_lv A_lv S_CI E_ci [] a1 cs h0 O0 Ss) hZ (hw _ (List.mem_of_getElem? (i := 52) rfl)) (hw _ (List.mem_of_getElem? (i := 7) rfl)) (by decide) (by decide)) q155a q155c (g := (mkF m 1 #[.val (.ref a1), .unset] [(.ref a1)])) rfl (by rw [hml]; rfl) (Steps.refl _) (argsL := []) (rest := []) (lenOf pd_2829Z rfl) rfl (by show 2 * 0 + _ ≤ _; exact Nat.le_of_eq rfl) (hb hby d23_1) (fun _ _ => ⟨rfl, e0, (by decide : 0 + 0 ≤ _), (by decide : 0 + 0 ≤ _)⟩)
  dsimp only [Pt.U, Pt.locs, Pt.cells, Pt.slots] at X155 l155 y155 z155 st155 hQ155
  subst l155 y155 z155
  obtain ⟨rfl, Nq155, e155⟩ := hQ155
  have N156 := Fr.app N0 Nq155
  refine OEnd.of (fun tq kq => st155.trans kq) ?_
  show OEnd p e below _ (T155.setTop (mkF m 4 #[.val (.ref a1), .unset] [(.int (1 : Int32))]))
  refine OEnd.of (fun tq kq => XS.ifNo X155.here hx rfl (hb hby d23_4) rfl ((if0 _ _).trans (feq (by decide : ¬ ((1 : Int32) = (0 : Int32)))).1) kq) ?_
  show OEnd p e below _ (T155.setTop (mkF m 7 #[.val (.ref a1), .unset] []))
  refine OEnd.of (fun tq kq => XS.aloadN X155.here hx rfl (hb hby d23_7) rfl rfl kq) ?_
  show OEnd p e below _ (T155.setTop (mkF m 8 #[.val (.ref a1), .unset] [(.ref a1)]))
  obtain ⟨T157, X157, e157, st157⟩ := getF X155 hx hZ hown (host := "") (Or.inl (hw _ (List.mem_of_getElem? (i := 32) rfl))) Via.refl e155 Vo154 (g := (mkF m 8 #[.val (.ref a1), .unset] [(.ref a1)])) rfl rfl (hb hby d23_8)
  refine OEnd.of st157 ?_
  show OEnd p e below _ (T157.setTop (mkF m 11 #[.val (.ref a1), .unset] [(.ref to154)]))
  obtain ⟨_, vq158, ⟨T158, L158, k158, n158⟩, -, X158, S158, G158, ⟨Lc158, hQ158, l158, y158, z158, C158⟩, st158⟩ := callSS X157 hx (y := (⟨"java/lang/StringLatin1", "trim", "([B)Ljava/lang/String;"⟩ : MethodName)) hown (mvT hZ (hw _ (List.mem_of_getElem? (i := 104) rfl))) (mvT hZ (hw _ (List.mem_of_getElem? (i := 105) rfl))) (mvT hZ (hw _ (List.mem_of_getElem? (i := 65) rfl))) (mvT hZ (hw _ (List.mem_of_getElem? (i := 106) rfl))) (by decide) (backOfSH (W := 0) (rmLTrim l Z a0 hw zc fm rt bl lg lv lk ci S_CS hzc S_SF h_fm S_RT E_rt F_bl E_bl F_lg E_lg F_lv A_lv S_CI E_ci hEL [] to154 ko154 cs h0 O0 Ao154 Bo154 hl) hZ (hw _ (List.mem_of_getElem? (i := 106) rfl)) (hw _ (List.mem_of_getElem? (i := 65) rfl)) (by decide) (by decide) hEL HR0.1) (g := (mkF m 11 #[.val (.ref a1), .unset] [(.ref to154)])) rfl (by rw [hml]; rfl) (argsL := [(.ref to154)]) (rest := []) (lenOf pd_285bB29Ljava2flang2fString3b rfl) rfl (by show 2 * 0 + _ ≤ _; exact Nat.le_of_eq rfl) (hb hby d23_11) (fun _ _ => ⟨rfl, e157, (by decide : 0 + 2 ≤ _), (by decide : 0 + 12 ≤ _)⟩)
  dsimp only [Pt.U, Pt.locs, Pt.cells, Pt.slots] at X158 l158 y158 z158 st158 hQ158 S158 G158 C158
  subst l158 y158 z158
  obtain ⟨h158, e158⟩ : ∃ z, T158.heap = z := ⟨_, rfl⟩
  rw [e158] at hQ158 C158
  obtain ⟨rv_159, lf_160, rg_161, rfl, Nq158, Kq158, h_rv_162, htr_163, SV_164⟩ := hQ158
  have N165 := Fr.app N156 Nq158
  obtain ⟨X158, S158, hZ158, hown158⟩ := rebS hS0 (by rw [e157]; exact hk0) X158 S158 G158 hZ hown
  rw [e158] at S158
  have hk158 : h158.size ≤ h158.size := Nat.le_refl _
  have CR166 : CHr Z EL s.vm h0 T158.vm h158 := C158
  have HR167 : CHr Z EL s.vm h0 T158.vm h158 := HR0.trans CR166
  refine OEnd.of (fun tq kq => st158.trans kq) ?_
  show OEnd p e below _ (T158.setTop (mkF m 14 #[.val (.ref a1), .unset] [rv_159]))
  refine OEnd.of (fun tq kq => XS.goto X158.here hx rfl (pc0 := 14) (pc' := 24) rfl (hb hby d23_14) (by decide) (by decide) kq) ?_
  show OEnd p e below _ (T158.setTop (mkF m 24 #[.val (.ref a1), .unset] [rv_159]))
  refine OEnd.of (fun tq kq => XS.astoreN X158.here hx rfl (hb hby d23_24) rfl h_rv_162 (l' := #[.val (.ref a1), .val rv_159]) (own_stV (P := fun zz0 => storeLocals #[.val (.ref a1), .unset] 1 zz0 = some #[.val (.ref a1), .val zz0]) h_rv_162 rfl (fun aa0 => rfl)) kq) ?_
  show OEnd p e below _ (T158.setTop (mkF m 25 #[.val (.ref a1), .val rv_159] []))
  refine OEnd.of (fun tq kq => XS.aloadN X158.here hx rfl (hb hby d23_25) rfl h_rv_162 kq) ?_
  show OEnd p e below _ (T158.setTop (mkF m 26 #[.val (.ref a1), .val rv_159] [rv_159]))
  rcases ref_cases h_rv_162 with hnav168 | ⟨av168, hnav168⟩
  · subst hnav168
    refine OEnd.of (fun tq kq => XS.ifnonnullNo X158.here hx rfl (hb hby d23_26) rfl kq) ?_
    show OEnd p e below _ (T158.setTop (mkF m 29 #[.val (.ref a1), .val .null] []))
    refine OEnd.of (fun tq kq => XS.aloadN X158.here hx rfl (hb hby d23_29) rfl rfl kq) ?_
    show OEnd p e below _ (T158.setTop (mkF m 30 #[.val (.ref a1), .val .null] [(.ref a1)]))
    refine OEnd.of (fun tq kq => XS.goto X158.here hx rfl (pc0 := 30) (pc' := 34) rfl (hb hby d23_30) (by decide) (by decide) kq) ?_
    show OEnd p e below _ (T158.setTop (mkF m 34 #[.val (.ref a1), .val .null] [(.ref a1)]))
    have K169 : Keep h0 h158 [] := ((Keep.refl h0 []).trans Kq158 all0)
    have Sy : IsStr Z h158 a1 ((cs.drop lf_160).take (rg_161 - lf_160)) := by
      rcases SV_164 with ⟨-, q⟩ | ⟨a, q, -⟩
      · rw [q]; exact (Ss.keep K169)
      · cases q
    exact OEnd.retAW X158 hx hlk e158 hh S158 hk158 hEL hZ158 HR167 hret rfl rfl (hb hby d23_34) ⟨a1, lf_160, rg_161, rfl, N165, K169, htr_163, Sy⟩ (by decide) (by decide)
  · subst hnav168
    refine OEnd.of (fun tq kq => XS.ifnonnullYes X158.here hx rfl (pc0 := 26) (pc' := 33) rfl (hb hby d23_26) rfl (by decide) (by decide) kq) ?_
    show OEnd p e below _ (T158.setTop (mkF m 33 #[.val (.ref a1), .val (.ref av168)] []))
    refine OEnd.of (fun tq kq => XS.aloadN X158.here hx rfl (hb hby d23_33) rfl rfl kq) ?_
    show OEnd p e below _ (T158.setTop (mkF m 34 #[.val (.ref a1), .val (.ref av168)] [(.ref av168)]))
    have Sy : IsStr Z h158 av168 ((cs.drop lf_160).take (rg_161 - lf_160)) := by
      rcases SV_164 with ⟨q, -⟩ | ⟨b, q, S⟩
      · cases q
      · cases q; exact S
    have K170 : Keep h0 h158 [] := ((Keep.refl h0 []).trans Kq158 all0)
    exact OEnd.retAW X158 hx hlk e158 hh S158 hk158 hEL hZ158 HR167 hret rfl rfl (hb hby d23_34) ⟨av168, lf_160, rg_161, rfl, N165, K170, htr_163, Sy⟩ (by decide) (by decide)
theorem d32_0 : decode jdk_116_method_20_code 0 = .ok (.iload_n 1, 1) := by decide +kernel
theorem d32_1 : decode jdk_116_method_20_code 1 = .ok (.bipush 65, 2) := by decide +kernel
theorem d32_3 : decode jdk_116_method_20_code 3 = .ok (.if_icmp .ge 5, 3) := by decide +kernel
theorem d32_6 : decode jdk_116_method_20_code 6 = .ok (.iload_n 1, 1) := by decide +kernel
theorem d32_7 : decode jdk_116_method_20_code 7 = .ok (.ireturn, 1) := by decide +kernel
theorem d32_8 : decode jdk_116_method_20_code 8 = .ok (.iload_n 1, 1) := by decide +kernel
theorem d32_9 : decode jdk_116_method_20_code 9 = .ok (.bipush 32, 2) := by decide +kernel
theorem d32_11 : decode jdk_116_method_20_code 11 = .ok (.ior, 1) := by decide +kernel
theorem d32_12 : decode jdk_116_method_20_code 12 = .ok (.istore_n 2, 1) := by decide +kernel
theorem d32_13 : decode jdk_116_method_20_code 13 = .ok (.iload_n 2, 1) := by decide +kernel
theorem d32_14 : decode jdk_116_method_20_code 14 = .ok (.bipush 122, 2) := by decide +kernel
theorem d32_16 : decode jdk_116_method_20_code 16 = .ok (.if_icmp .le 24, 3) := by decide +kernel
theorem d32_19 : decode jdk_116_method_20_code 19 = .ok (.iload_n 2, 1) := by decide +kernel
theorem d32_20 : decode jdk_116_method_20_code 20 = .ok (.sipush 224, 3) := by decide +kernel
theorem d32_23 : decode jdk_116_method_20_code 23 = .ok (.if_icmp .lt 19, 3) := by decide +kernel
theorem d32_26 : decode jdk_116_method_20_code 26 = .ok (.iload_n 2, 1) := by decide +kernel
theorem d32_27 : decode jdk_116_method_20_code 27 = .ok (.sipush 254, 3) := by decide +kernel
theorem d32_30 : decode jdk_116_method_20_code 30 = .ok (.if_icmp .gt 12, 3) := by decide +kernel
theorem d32_33 : decode jdk_116_method_20_code 33 = .ok (.iload_n 2, 1) := by decide +kernel
theorem d32_34 : decode jdk_116_method_20_code 34 = .ok (.sipush 247, 3) := by decide +kernel
theorem d32_37 : decode jdk_116_method_20_code 37 = .ok (.if_icmp .eq 5, 3) := by decide +kernel
theorem d32_40 : decode jdk_116_method_20_code 40 = .ok (.iload_n 2, 1) := by decide +kernel
theorem d32_41 : decode jdk_116_method_20_code 41 = .ok (.ireturn, 1) := by decide +kernel
theorem d32_42 : decode jdk_116_method_20_code 42 = .ok (.iload_n 1, 1) := by decide +kernel
theorem d32_43 : decode jdk_116_method_20_code 43 = .ok (.ireturn, 1) := by decide +kernel
theorem pn_java_lang_CharacterDataLatin1 : plainName "java/lang/CharacterDataLatin1" = true := by first | (simp [plainName, overriddenIn]; done) | decide +kernel
abbrev RMrmCLow : Room := { frames := 0, cells := 0, slots := 0, locals := 0 }
theorem ef_rmCLow (m : MethodId) (a1 : Addr) (p1 : Int32) : entryFrame m #[(.ref a1), (.int p1)] 3 = mkF m 0 #[.val (.ref a1), .val (.int p1), .unset] [] := by first | (simp [entryFrame, mkF, argsToLocals, Value.category]; done) | rfl
def QrmCLow (Z : State) (zc : Int32) (fm : Value) (rt : Addr) (bl : Addr) (lg : Addr) (lv : Addr) (lk : ClassId) (ci : Addr) (a1 : Addr) (p1 : Int32) (h0 : Heap) (v : Option Value) (h : Heap) (L : List Loc) : Prop := v = some (.int (own_low p1)) ∧ Fr Z.heap.size L ∧ h = h0
set_option maxRecDepth 65536 in
set_option maxHeartbeats 40000000 in
theorem rmCLow (l : Launch) (Z : State) (a0 : Array Value) (hw : ∀ d ∈ tables_1, d.before a0 Z = true) (zc : Int32) (fm : Value) (rt : Addr) (bl : Addr) (lg : Addr) (lv : Addr) (lk : ClassId) (ci : Addr) (S_CS : Sta Z Z.heap "java/lang/String" "COMPACT_STRINGS" "Z" (.int zc)) (hzc : ¬ zc = 0) (S_SF : Sta Z Z.heap "jdk/internal/util/Preconditions" "SIOOBE_FORMATTER" "Ljava/util/function/BiFunction;" fm) (h_fm : fm.isRef = true) (S_RT : Sta Z Z.heap "java/util/Locale" "ROOT" "Ljava/util/Locale;" (.ref rt)) (E_rt : Exa Z Z.heap rt "java/util/Locale") (F_bl : Fld Z Z.heap rt "java/util/Locale" "baseLocale" "Lsun/util/locale/BaseLocale;" (.ref bl)) (E_bl : Exa Z Z.heap bl "sun/util/locale/BaseLocale") (F_lg : Fld Z Z.heap bl "sun/util/locale/BaseLocale" "language" "Ljava/lang/String;" (.ref lg)) (E_lg : Exa Z Z.heap lg "java/lang/String") (F_lv : Fld Z Z.heap lg "java/lang/String" "value" "[B" (.ref lv)) (A_lv : Arv Z Z.heap lv lk .byte (0 : Int32) [] (.int (0 : Int32))) (S_CI : Sta Z Z.heap "java/lang/CharacterDataLatin1" "instance" "Ljava/lang/CharacterDataLatin1;" (.ref ci)) (E_ci : Exa Z Z.heap ci "java/lang/CharacterDataLatin1") (ws : List Jvm.Cond) (a1 : Addr) (p1 : Int32) (h0 : Heap) (O0 : Ext Z.heap h0) :
    MetFree l (⟨"java/lang/CharacterDataLatin1", "toLowerCase", "(I)I"⟩ : MethodName) (head1 (Jvm.Cond.code (⟨"java/lang/CharacterDataLatin1", "toLowerCase", "(I)I"⟩ : MethodName) jdk_116_method_20_code 3 (some .int) :: ws) RMrmCLow) (fun a U => a = #[(.ref a1), (.int p1)] ∧ Z.Warmed39 U.vm ∧ U.heap = h0) (fun _ _ _ _ _ => True) (fun _ U o U' => ∃ v L, o = .returned v ∧ QrmCLow Z zc fm rt bl lg lv lk ci a1 p1 h0 v U'.heap L ∧ FrameEnd U o U' L RMrmCLow.cells RMrmCLow.slots) := by
  refine MetFree.of_bodySF (plainFor_of_name pn_java_lang_CharacterDataLatin1) hisR ?_
  intro p e s m args below meth c s₁ Bd hml0 hP hK
  obtain ⟨rfl, hZ, hh⟩ := hP
  have hx := Bd.exec
  have hby := Bd.bytes
  have hlk : meth.locks = false := BodyLoose.notSynchronized Bd
  have hret := Bd.returns
  have hml : c.maxLocals = 3 := hml0
  have hown : s.vm.findClass "java/lang/CharacterDataLatin1" = some m.cls := findClass_of_methodNamed Bd.named
  have hnm := (name_of_methodNamed Bd.named Bd.method).1
  have X0 : Stand p l e RMrmCLow s m #[(.ref a1), (.int p1)] below meth c s₁ [] 0 0 := Stand.of_body Bd
  have e0 : s₁.heap = h0 := by rw [← hh, Bd.state]; rfl
  have N0 := Fr.nil Z.heap.size
  show OEnd p e below (GN s (QrmCLow Z zc fm rt bl lg lv lk ci a1 p1 h0) RMrmCLow.cells RMrmCLow.slots) _
  refine OEnd.of (fun tq kq => castTop (ef_rmCLow m a1 p1) kq) ?_
  refine OEnd.of (fun tq kq => XS.iloadN X0.here hx rfl (hb hby d32_0) rfl kq) ?_
  show OEnd p e below _ (s₁.setTop (mkF m 1 #[.val (.ref a1), .val (.int p1), .unset] [(.int p1)]))
  refine OEnd.of (fun tq kq => XS.bipush X0.here hx rfl (hb hby d32_1) kq) ?_
  show OEnd p e below _ (s₁.setTop (mkF m 3 #[.val (.ref a1), .val (.int p1), .unset] [(.int (65 : Int32)), (.int p1)]))
  by_cases hc171 : p1 < (65 : Int32)
  · refine OEnd.of (fun tq kq => XS.icmpNo X0.here hx rfl (hb hby d32_3) rfl (tlt hc171).2.1 kq) ?_
    show OEnd p e below _ (s₁.setTop (mkF m 6 #[.val (.ref a1), .val (.int p1), .unset] []))
    refine OEnd.of (fun tq kq => XS.iloadN X0.here hx rfl (hb hby d32_6) rfl kq) ?_
    show OEnd p e below _ (s₁.setTop (mkF m 7 #[.val (.ref a1), .val (.int p1), .unset] [(.int p1)]))
    exact OEnd.retI X0 hx hlk e0 hret (hb hby d32_7) ⟨(by show some (Value.int _) = some (Value.int (own_low p1)); unfold own_low; rw [if_pos hc171]), N0, rfl⟩ (by decide) (by decide)
  · refine OEnd.of (fun tq kq => XS.icmpYes X0.here hx rfl (pc0 := 3) (pc' := 8) rfl (hb hby d32_3) rfl (flt hc171).2.1 (by decide) (by decide) kq) ?_
    show OEnd p e below _ (s₁.setTop (mkF m 8 #[.val (.ref a1), .val (.int p1), .unset] []))
    refine OEnd.of (fun tq kq => XS.iloadN X0.here hx rfl (hb hby d32_8) rfl kq) ?_
    show OEnd p e below _ (s₁.setTop (mkF m 9 #[.val (.ref a1), .val (.int p1), .unset] [(.int p1)]))
    refine OEnd.of (fun tq kq => XS.bipush X0.here hx rfl (hb hby d32_9) kq) ?_
    show OEnd p e below _ (s₁.setTop (mkF m 11 #[.val (.ref a1), .val (.int p1), .unset] [(.int (32 : Int32)), (.int p1)]))
    refine OEnd.of (fun tq kq => XS.ior X0.here hx rfl (hb hby d32_11) rfl kq) ?_
    show OEnd p e below _ (s₁.setTop (mkF m 12 #[.val (.ref a1), .val (.int p1), .unset] [(.int (p1 ||| (32 : Int32)))]))
    refine OEnd.of (fun tq kq => XS.istoreN X0.here hx rfl (hb hby d32_12) rfl (l' := #[.val (.ref a1), .val (.int p1), .val (.int (p1 ||| (32 : Int32)))]) rfl kq) ?_
    show OEnd p e below _ (s₁.setTop (mkF m 13 #[.val (.ref a1), .val (.int p1), .val (.int (p1 ||| (32 : Int32)))] []))
    refine OEnd.of (fun tq kq => XS.iloadN X0.here hx rfl (hb hby d32_13) rfl kq) ?_
    show OEnd p e below _ (s₁.setTop (mkF m 14 #[.val (.ref a1), .val (.int p1), .val (.int (p1 ||| (32 : Int32)))] [(.int (p1 ||| (32 : Int32)))]))
    refine OEnd.of (fun tq kq => XS.bipush X0.here hx rfl (hb hby d32_14) kq) ?_
    show OEnd p e below _ (s₁.setTop (mkF m 16 #[.val (.ref a1), .val (.int p1), .val (.int (p1 ||| (32 : Int32)))] [(.int (122 : Int32)), (.int (p1 ||| (32 : Int32)))]))
    by_cases hc172 : (122 : Int32) < (p1 ||| (32 : Int32))
    · refine OEnd.of (fun tq kq => XS.icmpNo X0.here hx rfl (hb hby d32_16) rfl (tlt hc172).2.2.2 kq) ?_
      show OEnd p e below _ (s₁.setTop (mkF m 19 #[.val (.ref a1), .val (.int p1), .val (.int (p1 ||| (32 : Int32)))] []))
      refine OEnd.of (fun tq kq => XS.iloadN X0.here hx rfl (hb hby d32_19) rfl kq) ?_
      show OEnd p e below _ (s₁.setTop (mkF m 20 #[.val (.ref a1), .val (.int p1), .val (.int (p1 ||| (32 : Int32)))] [(.int (p1 ||| (32 : Int32)))]))
      refine OEnd.of (fun tq kq => XS.sipush X0.here hx rfl (hb hby d32_20) kq) ?_
      show OEnd p e below _ (s₁.setTop (mkF m 23 #[.val (.ref a1), .val (.int p1), .val (.int (p1 ||| (32 : Int32)))] [(.int (224 : Int32)), (.int (p1 ||| (32 : Int32)))]))
      by_cases hc173 : (p1 ||| (32 : Int32)) < (224 : Int32)
      · refine OEnd.of (fun tq kq => XS.icmpYes X0.here hx rfl (pc0 := 23) (pc' := 42) rfl (hb hby d32_23) rfl (tlt hc173).1 (by decide) (by decide) kq) ?_
        show OEnd p e below _ (s₁.setTop (mkF m 42 #[.val (.ref a1), .val (.int p1), .val (.int (p1 ||| (32 : Int32)))] []))
        refine OEnd.of (fun tq kq => XS.iloadN X0.here hx rfl (hb hby d32_42) rfl kq) ?_
        show OEnd p e below _ (s₁.setTop (mkF m 43 #[.val (.ref a1), .val (.int p1), .val (.int (p1 ||| (32 : Int32)))] [(.int p1)]))
        exact OEnd.retI X0 hx hlk e0 hret (hb hby d32_43) ⟨(by show some (Value.int _) = some (Value.int (own_low p1)); unfold own_low; rw [if_neg hc171, if_pos hc172, if_pos hc173]), N0, rfl⟩ (by decide) (by decide)
      · refine OEnd.of (fun tq kq => XS.icmpNo X0.here hx rfl (hb hby d32_23) rfl (flt hc173).1 kq) ?_
        show OEnd p e below _ (s₁.setTop (mkF m 26 #[.val (.ref a1), .val (.int p1), .val (.int (p1 ||| (32 : Int32)))] []))
        refine OEnd.of (fun tq kq => XS.iloadN X0.here hx rfl (hb hby d32_26) rfl kq) ?_
        show OEnd p e below _ (s₁.setTop (mkF m 27 #[.val (.ref a1), .val (.int p1), .val (.int (p1 ||| (32 : Int32)))] [(.int (p1 ||| (32 : Int32)))]))
        refine OEnd.of (fun tq kq => XS.sipush X0.here hx rfl (hb hby d32_27) kq) ?_
        show OEnd p e below _ (s₁.setTop (mkF m 30 #[.val (.ref a1), .val (.int p1), .val (.int (p1 ||| (32 : Int32)))] [(.int (254 : Int32)), (.int (p1 ||| (32 : Int32)))]))
        by_cases hc174 : (254 : Int32) < (p1 ||| (32 : Int32))
        · refine OEnd.of (fun tq kq => XS.icmpYes X0.here hx rfl (pc0 := 30) (pc' := 42) rfl (hb hby d32_30) rfl (tlt hc174).2.2.1 (by decide) (by decide) kq) ?_
          show OEnd p e below _ (s₁.setTop (mkF m 42 #[.val (.ref a1), .val (.int p1), .val (.int (p1 ||| (32 : Int32)))] []))
          refine OEnd.of (fun tq kq => XS.iloadN X0.here hx rfl (hb hby d32_42) rfl kq) ?_
          show OEnd p e below _ (s₁.setTop (mkF m 43 #[.val (.ref a1), .val (.int p1), .val (.int (p1 ||| (32 : Int32)))] [(.int p1)]))
          exact OEnd.retI X0 hx hlk e0 hret (hb hby d32_43) ⟨(by show some (Value.int _) = some (Value.int (own_low p1)); unfold own_low; rw [if_neg hc171, if_pos hc172, if_neg hc173, if_pos hc174]), N0, rfl⟩ (by decide) (by decide)
        · refine OEnd.of (fun tq kq => XS.icmpNo X0.here hx rfl (hb hby d32_30) rfl (flt hc174).2.2.1 kq) ?_
          show OEnd p e below _ (s₁.setTop (mkF m 33 #[.val (.ref a1), .val (.int p1), .val (.int (p1 ||| (32 : Int32)))] []))
          refine OEnd.of (fun tq kq => XS.iloadN X0.here hx rfl (hb hby d32_33) rfl kq) ?_
          show OEnd p e below _ (s₁.setTop (mkF m 34 #[.val (.ref a1), .val (.int p1), .val (.int (p1 ||| (32 : Int32)))] [(.int (p1 ||| (32 : Int32)))]))
          refine OEnd.of (fun tq kq => XS.sipush X0.here hx rfl (hb hby d32_34) kq) ?_
          show OEnd p e below _ (s₁.setTop (mkF m 37 #[.val (.ref a1), .val (.int p1), .val (.int (p1 ||| (32 : Int32)))] [(.int (247 : Int32)), (.int (p1 ||| (32 : Int32)))]))
          by_cases hc175 : (p1 ||| (32 : Int32)) = (247 : Int32)
          · refine OEnd.of (fun tq kq => XS.icmpYes X0.here hx rfl (pc0 := 37) (pc' := 42) rfl (hb hby d32_37) rfl (teq hc175).1 (by decide) (by decide) kq) ?_
            show OEnd p e below _ (s₁.setTop (mkF m 42 #[.val (.ref a1), .val (.int p1), .val (.int (p1 ||| (32 : Int32)))] []))
            refine OEnd.of (fun tq kq => XS.iloadN X0.here hx rfl (hb hby d32_42) rfl kq) ?_
            show OEnd p e below _ (s₁.setTop (mkF m 43 #[.val (.ref a1), .val (.int p1), .val (.int (p1 ||| (32 : Int32)))] [(.int p1)]))
            exact OEnd.retI X0 hx hlk e0 hret (hb hby d32_43) ⟨(by show some (Value.int _) = some (Value.int (own_low p1)); unfold own_low; rw [if_neg hc171, if_pos hc172, if_neg hc173, if_neg hc174, if_pos hc175]), N0, rfl⟩ (by decide) (by decide)
          · refine OEnd.of (fun tq kq => XS.icmpNo X0.here hx rfl (hb hby d32_37) rfl (feq hc175).1 kq) ?_
            show OEnd p e below _ (s₁.setTop (mkF m 40 #[.val (.ref a1), .val (.int p1), .val (.int (p1 ||| (32 : Int32)))] []))
            refine OEnd.of (fun tq kq => XS.iloadN X0.here hx rfl (hb hby d32_40) rfl kq) ?_
            show OEnd p e below _ (s₁.setTop (mkF m 41 #[.val (.ref a1), .val (.int p1), .val (.int (p1 ||| (32 : Int32)))] [(.int (p1 ||| (32 : Int32)))]))
            exact OEnd.retI X0 hx hlk e0 hret (hb hby d32_41) ⟨(by show some (Value.int _) = some (Value.int (own_low p1)); unfold own_low; rw [if_neg hc171, if_pos hc172, if_neg hc173, if_neg hc174, if_neg hc175]), N0, rfl⟩ (by decide) (by decide)
    · refine OEnd.of (fun tq kq => XS.icmpYes X0.here hx rfl (pc0 := 16) (pc' := 40) rfl (hb hby d32_16) rfl (flt hc172).2.2.2 (by decide) (by decide) kq) ?_
      show OEnd p e below _ (s₁.setTop (mkF m 40 #[.val (.ref a1), .val (.int p1), .val (.int (p1 ||| (32 : Int32)))] []))
      refine OEnd.of (fun tq kq => XS.iloadN X0.here hx rfl (hb hby d32_40) rfl kq) ?_
      show OEnd p e below _ (s₁.setTop (mkF m 41 #[.val (.ref a1), .val (.int p1), .val (.int (p1 ||| (32 : Int32)))] [(.int (p1 ||| (32 : Int32)))]))
      exact OEnd.retI X0 hx hlk e0 hret (hb hby d32_41) ⟨(by show some (Value.int _) = some (Value.int (own_low p1)); unfold own_low; rw [if_neg hc171, if_neg hc172]), N0, rfl⟩ (by decide) (by decide)
theorem d39_0 : decode jdk_3003_method_5_code 0 = .ok (.aload_n 0, 1) := by decide +kernel
theorem d39_1 : decode jdk_3003_method_5_code 1 = .ok (.getfield 19, 3) := by decide +kernel
theorem d39_4 : decode jdk_3003_method_5_code 4 = .ok (.areturn, 1) := by decide +kernel
theorem pn_sun_util_locale_BaseLocale : plainName "sun/util/locale/BaseLocale" = true := by first | (simp [plainName, overriddenIn]; done) | decide +kernel
abbrev RMrmBLang : Room := { frames := 0, cells := 0, slots := 0, locals := 0 }
theorem ef_rmBLang (m : MethodId) (a1 : Addr) : entryFrame m #[(.ref a1)] 1 = mkF m 0 #[.val (.ref a1)] [] := by first | (simp [entryFrame, mkF, argsToLocals, Value.category]; done) | rfl
def QrmBLang (Z : State) (zc : Int32) (fm : Value) (rt : Addr) (bl : Addr) (lg : Addr) (lv : Addr) (lk : ClassId) (ci : Addr) (a1 : Addr) (a2 : Addr) (h0 : Heap) (v : Option Value) (h : Heap) (L : List Loc) : Prop := v = some (.ref a2) ∧ Fr Z.heap.size L ∧ h = h0
set_option maxRecDepth 65536 in
set_option maxHeartbeats 40000000 in
theorem rmBLang (l : Launch) (Z : State) (a0 : Array Value) (hw : ∀ d ∈ tables_1, d.before a0 Z = true) (zc : Int32) (fm : Value) (rt : Addr) (bl : Addr) (lg : Addr) (lv : Addr) (lk : ClassId) (ci : Addr) (S_CS : Sta Z Z.heap "java/lang/String" "COMPACT_STRINGS" "Z" (.int zc)) (hzc : ¬ zc = 0) (S_SF : Sta Z Z.heap "jdk/internal/util/Preconditions" "SIOOBE_FORMATTER" "Ljava/util/function/BiFunction;" fm) (h_fm : fm.isRef = true) (S_RT : Sta Z Z.heap "java/util/Locale" "ROOT" "Ljava/util/Locale;" (.ref rt)) (E_rt : Exa Z Z.heap rt "java/util/Locale") (F_bl : Fld Z Z.heap rt "java/util/Locale" "baseLocale" "Lsun/util/locale/BaseLocale;" (.ref bl)) (E_bl : Exa Z Z.heap bl "sun/util/locale/BaseLocale") (F_lg : Fld Z Z.heap bl "sun/util/locale/BaseLocale" "language" "Ljava/lang/String;" (.ref lg)) (E_lg : Exa Z Z.heap lg "java/lang/String") (F_lv : Fld Z Z.heap lg "java/lang/String" "value" "[B" (.ref lv)) (A_lv : Arv Z Z.heap lv lk .byte (0 : Int32) [] (.int (0 : Int32))) (S_CI : Sta Z Z.heap "java/lang/CharacterDataLatin1" "instance" "Ljava/lang/CharacterDataLatin1;" (.ref ci)) (E_ci : Exa Z Z.heap ci "java/lang/CharacterDataLatin1") (ws : List Jvm.Cond) (a1 : Addr) (a2 : Addr) (h0 : Heap) (O0 : Ext Z.heap h0) (F : Fld Z h0 a1 "sun/util/locale/BaseLocale" "language" "Ljava/lang/String;" (.ref a2)) :
    MetFree l (⟨"sun/util/locale/BaseLocale", "getLanguage", "()Ljava/lang/String;"⟩ : MethodName) (head1 (Jvm.Cond.code (⟨"sun/util/locale/BaseLocale", "getLanguage", "()Ljava/lang/String;"⟩ : MethodName) jdk_3003_method_5_code 1 (some (.object "java/lang/String")) :: ws) RMrmBLang) (fun a U => a = #[(.ref a1)] ∧ Z.Warmed39 U.vm ∧ U.heap = h0) (fun _ _ _ _ _ => True) (fun _ U o U' => ∃ v L, o = .returned v ∧ QrmBLang Z zc fm rt bl lg lv lk ci a1 a2 h0 v U'.heap L ∧ FrameEnd U o U' L RMrmBLang.cells RMrmBLang.slots) := by
  refine MetFree.of_bodySF (plainFor_of_name pn_sun_util_locale_BaseLocale) hisR ?_
  intro p e s m args below meth c s₁ Bd hml0 hP hK
  obtain ⟨rfl, hZ, hh⟩ := hP
  have hx := Bd.exec
  have hby := Bd.bytes
  have hlk : meth.locks = false := BodyLoose.notSynchronized Bd
  have hret := Bd.returns
  have hml : c.maxLocals = 1 := hml0
  have hown : s.vm.findClass "sun/util/locale/BaseLocale" = some m.cls := findClass_of_methodNamed Bd.named
  have hnm := (name_of_methodNamed Bd.named Bd.method).1
  have X0 : Stand p l e RMrmBLang s m #[(.ref a1)] below meth c s₁ [] 0 0 := Stand.of_body Bd
  have e0 : s₁.heap = h0 := by rw [← hh, Bd.state]; rfl
  have N0 := Fr.nil Z.heap.size
  show OEnd p e below (GN s (QrmBLang Z zc fm rt bl lg lv lk ci a1 a2 h0) RMrmBLang.cells RMrmBLang.slots) _
  refine OEnd.of (fun tq kq => castTop (ef_rmBLang m a1) kq) ?_
  refine OEnd.of (fun tq kq => XS.aloadN X0.here hx rfl (hb hby d39_0) rfl rfl kq) ?_
  show OEnd p e below _ (s₁.setTop (mkF m 1 #[.val (.ref a1)] [(.ref a1)]))
  obtain ⟨T176, X176, e176, st176⟩ := getF X0 hx hZ hown (host := "") (Or.inl (hw _ (List.mem_of_getElem? (i := 178) rfl))) Via.refl e0 F (g := (mkF m 1 #[.val (.ref a1)] [(.ref a1)])) rfl rfl (hb hby d39_1)
  refine OEnd.of st176 ?_
  show OEnd p e below _ (T176.setTop (mkF m 4 #[.val (.ref a1)] [(.ref a2)]))
  exact OEnd.retA X176 hx hlk e176 hret rfl rfl (hb hby d39_4) ⟨rfl, N0, rfl⟩ (by decide) (by decide)
theorem pd_2829Ljava2flang2fString3b : parseMethodDescriptor "()Ljava/lang/String;" = some ⟨[], some (.object "java/lang/String")⟩ := by decide +kernel
theorem d38_0 : decode jdk_2628_method_27_code 0 = .ok (.aload_n 0, 1) := by decide +kernel
theorem d38_1 : decode jdk_2628_method_27_code 1 = .ok (.getfield 28, 3) := by decide +kernel
theorem d38_4 : decode jdk_2628_method_27_code 4 = .ok (.invokevirtual 293, 3) := by decide +kernel
theorem d38_7 : decode jdk_2628_method_27_code 7 = .ok (.areturn, 1) := by decide +kernel
theorem pn_java_util_Locale : plainName "java/util/Locale" = true := by first | (simp [plainName, overriddenIn]; done) | decide +kernel
abbrev RMrmLang : Room := { frames := 1, cells := 0, slots := 0, locals := 12 }
theorem ef_rmLang (m : MethodId) (rt : Addr) : entryFrame m #[(.ref rt)] 1 = mkF m 0 #[.val (.ref rt)] [] := by first | (simp [entryFrame, mkF, argsToLocals, Value.category]; done) | rfl
def QrmLang (Z : State) (zc : Int32) (fm : Value) (rt : Addr) (bl : Addr) (lg : Addr) (lv : Addr) (lk : ClassId) (ci : Addr)  (h0 : Heap) (v : Option Value) (h : Heap) (L : List Loc) : Prop := v = some (.ref lg) ∧ Fr Z.heap.size L ∧ h = h0
set_option maxRecDepth 65536 in
set_option maxHeartbeats 40000000 in
theorem rmLang (l : Launch) (Z : State) (a0 : Array Value) (hw : ∀ d ∈ tables_1, d.before a0 Z = true) (zc : Int32) (fm : Value) (rt : Addr) (bl : Addr) (lg : Addr) (lv : Addr) (lk : ClassId) (ci : Addr) (S_CS : Sta Z Z.heap "java/lang/String" "COMPACT_STRINGS" "Z" (.int zc)) (hzc : ¬ zc = 0) (S_SF : Sta Z Z.heap "jdk/internal/util/Preconditions" "SIOOBE_FORMATTER" "Ljava/util/function/BiFunction;" fm) (h_fm : fm.isRef = true) (S_RT : Sta Z Z.heap "java/util/Locale" "ROOT" "Ljava/util/Locale;" (.ref rt)) (E_rt : Exa Z Z.heap rt "java/util/Locale") (F_bl : Fld Z Z.heap rt "java/util/Locale" "baseLocale" "Lsun/util/locale/BaseLocale;" (.ref bl)) (E_bl : Exa Z Z.heap bl "sun/util/locale/BaseLocale") (F_lg : Fld Z Z.heap bl "sun/util/locale/BaseLocale" "language" "Ljava/lang/String;" (.ref lg)) (E_lg : Exa Z Z.heap lg "java/lang/String") (F_lv : Fld Z Z.heap lg "java/lang/String" "value" "[B" (.ref lv)) (A_lv : Arv Z Z.heap lv lk .byte (0 : Int32) [] (.int (0 : Int32))) (S_CI : Sta Z Z.heap "java/lang/CharacterDataLatin1" "instance" "Ljava/lang/CharacterDataLatin1;" (.ref ci)) (E_ci : Exa Z Z.heap ci "java/lang/CharacterDataLatin1") (ws : List Jvm.Cond)  (h0 : Heap) (O0 : Ext Z.heap h0) :
    MetFree l (⟨"java/util/Locale", "getLanguage", "()Ljava/lang/String;"⟩ : MethodName) (head1 (Jvm.Cond.code (⟨"java/util/Locale", "getLanguage", "()Ljava/lang/String;"⟩ : MethodName) jdk_2628_method_27_code 1 (some (.object "java/lang/String")) :: ws) RMrmLang) (fun a U => a = #[(.ref rt)] ∧ Z.Warmed39 U.vm ∧ U.heap = h0) (fun _ _ _ _ _ => True) (fun _ U o U' => ∃ v L, o = .returned v ∧ QrmLang Z zc fm rt bl lg lv lk ci  h0 v U'.heap L ∧ FrameEnd U o U' L RMrmLang.cells RMrmLang.slots) := by
  refine MetFree.of_bodySF (plainFor_of_name pn_java_util_Locale) hisR ?_
  intro p e s m args below meth c s₁ Bd hml0 hP hK
  obtain ⟨rfl, hZ, hh⟩ := hP
  have hx := Bd.exec
  have hby := Bd.bytes
  have hlk : meth.locks = false := BodyLoose.notSynchronized Bd
  have hret := Bd.returns
  have hml : c.maxLocals = 1 := hml0
  have hown : s.vm.findClass "java/util/Locale" = some m.cls := findClass_of_methodNamed Bd.named
  have hnm := (name_of_methodNamed Bd.named Bd.method).1
  have X0 : Stand p l e RMrmLang s m #[(.ref rt)] below meth c s₁ [] 0 0 := Stand.of_body Bd
  have e0 : s₁.heap = h0 := by rw [← hh, Bd.state]; rfl
  have N0 := Fr.nil Z.heap.size
  show OEnd p e below (GN s (QrmLang Z zc fm rt bl lg lv lk ci  h0) RMrmLang.cells RMrmLang.slots) _
  refine OEnd.of (fun tq kq => castTop (ef_rmLang m rt) kq) ?_
  refine OEnd.of (fun tq kq => XS.aloadN X0.here hx rfl (hb hby d38_0) rfl rfl kq) ?_
  show OEnd p e below _ (s₁.setTop (mkF m 1 #[.val (.ref rt)] [(.ref rt)]))
  obtain ⟨T177, X177, e177, st177⟩ := getF X0 hx hZ hown (host := "") (Or.inl (hw _ (List.mem_of_getElem? (i := 170) rfl))) Via.refl e0 (Fld.ext O0 F_bl) (g := (mkF m 1 #[.val (.ref rt)] [(.ref rt)])) rfl rfl (hb hby d38_1)
  refine OEnd.of st177 ?_
  show OEnd p e below _ (T177.setTop (mkF m 4 #[.val (.ref rt)] [(.ref bl)]))
  obtain ⟨cq178, kq178, q178a, q178b, q178c⟩ := isOf hZ e177 (Exa.ext O0 E_bl)
  obtain ⟨_, _, ⟨T178, L178, k178, n178⟩, -, X178, ⟨Lc178, hQ178, l178, y178, z178⟩, st178⟩ := X177.virtualBack hx (y := (⟨"sun/util/locale/BaseLocale", "getLanguage", "()Ljava/lang/String;"⟩ : MethodName)) (z := (⟨"sun/util/locale/BaseLocale", "getLanguage", "()Ljava/lang/String;"⟩ : MethodName)) hown (mvT hZ (hw _ (List.mem_of_getElem? (i := 172) rfl))) (mvT hZ (hw _ (List.mem_of_getElem? (i := 173) rfl))) (notFace_of_selects (args := #[]) (mvT hZ (hw _ (List.mem_of_getElem? (i := 175) rfl)))) (mvT hZ (hw _ (List.mem_of_getElem? (i := 175) rfl))) (mvT hZ (hw _ (List.mem_of_getElem? (i := 174) rfl))) (by decide) (backOf (W := 0) (rmBLang l Z a0 hw zc fm rt bl lg lv lk ci S_CS hzc S_SF h_fm S_RT E_rt F_bl E_bl F_lg E_lg F_lv A_lv S_CI E_ci [] bl lg h0 O0 (Fld.ext O0 F_lg)) hZ (hw _ (List.mem_of_getElem? (i := 177) rfl)) (hw _ (List.mem_of_getElem? (i := 176) rfl)) (by decide) (by decide)) q178a q178c (g := (mkF m 4 #[.val (.ref rt)] [(.ref bl)])) rfl (by rw [hml]; rfl) (Steps.refl _) (argsL := []) (rest := []) (lenOf pd_2829Ljava2flang2fString3b rfl) rfl (by show 2 * 0 + _ ≤ _; exact Nat.le_of_eq rfl) (hb hby d38_4) (fun _ _ => ⟨rfl, e177, (by decide : 0 + 0 ≤ _), (by decide : 0 + 0 ≤ _)⟩)
  dsimp only [Pt.U, Pt.locs, Pt.cells, Pt.slots] at X178 l178 y178 z178 st178 hQ178
  subst l178 y178 z178
  obtain ⟨rfl, Nq178, e178⟩ := hQ178
  have N179 := Fr.app N0 Nq178
  refine OEnd.of (fun tq kq => st178.trans kq) ?_
  show OEnd p e below _ (T178.setTop (mkF m 7 #[.val (.ref rt)] [(.ref lg)]))
  exact OEnd.retA X178 hx hlk e178 hret rfl rfl (hb hby d38_7) ⟨rfl, N179, rfl⟩ (by decide) (by decide)
theorem own_lit_74_72 : (∀ c ∈ "tr".toList, c.toNat < 256) ∧ "tr".toList.map (fun c => Value.int (Jvm.Lit.byteI c.toNat.toUInt16)) = [(.int (116 : Int32)), (.int (114 : Int32))] := ⟨by decide, by decide +kernel⟩
theorem own_lit_61_7a : (∀ c ∈ "az".toList, c.toNat < 256) ∧ "az".toList.map (fun c => Value.int (Jvm.Lit.byteI c.toNat.toUInt16)) = [(.int (97 : Int32)), (.int (122 : Int32))] := ⟨by decide, by decide +kernel⟩
theorem own_lit_6c_74 : (∀ c ∈ "lt".toList, c.toNat < 256) ∧ "lt".toList.map (fun c => Value.int (Jvm.Lit.byteI c.toNat.toUInt16)) = [(.int (108 : Int32)), (.int (116 : Int32))] := ⟨by decide, by decide +kernel⟩
theorem pd_28I29I : parseMethodDescriptor "(I)I" = some ⟨[.int], some .int⟩ := by decide +kernel
theorem d26_0 : decode jdk_43_method_32_code 0 = .ok (.aload_n 2, 1) := by decide +kernel
theorem d26_1 : decode jdk_43_method_32_code 1 = .ok (.ifnonnull 11, 3) := by decide +kernel
theorem d26_12 : decode jdk_43_method_32_code 12 = .ok (.aload_n 1, 1) := by decide +kernel
theorem d26_13 : decode jdk_43_method_32_code 13 = .ok (.arraylength, 1) := by decide +kernel
theorem d26_14 : decode jdk_43_method_32_code 14 = .ok (.istore 4, 2) := by decide +kernel
theorem d26_16 : decode jdk_43_method_32_code 16 = .ok (.iconst 0, 1) := by decide +kernel
theorem d26_17 : decode jdk_43_method_32_code 17 = .ok (.istore_n 3, 1) := by decide +kernel
theorem d26_18 : decode jdk_43_method_32_code 18 = .ok (.iload_n 3, 1) := by decide +kernel
theorem d26_19 : decode jdk_43_method_32_code 19 = .ok (.iload 4, 2) := by decide +kernel
theorem d26_21 : decode jdk_43_method_32_code 21 = .ok (.if_icmp .ge 34, 3) := by decide +kernel
theorem d26_24 : decode jdk_43_method_32_code 24 = .ok (.aload_n 1, 1) := by decide +kernel
theorem d26_25 : decode jdk_43_method_32_code 25 = .ok (.iload_n 3, 1) := by decide +kernel
theorem d26_26 : decode jdk_43_method_32_code 26 = .ok (.baload, 1) := by decide +kernel
theorem d26_27 : decode jdk_43_method_32_code 27 = .ok (.sipush 255, 3) := by decide +kernel
theorem d26_30 : decode jdk_43_method_32_code 30 = .ok (.iand, 1) := by decide +kernel
theorem d26_31 : decode jdk_43_method_32_code 31 = .ok (.istore 5, 2) := by decide +kernel
theorem d26_33 : decode jdk_43_method_32_code 33 = .ok (.iload 5, 2) := by decide +kernel
theorem d26_35 : decode jdk_43_method_32_code 35 = .ok (.getstatic 66, 3) := by decide +kernel
theorem d26_38 : decode jdk_43_method_32_code 38 = .ok (.iload 5, 2) := by decide +kernel
theorem d26_40 : decode jdk_43_method_32_code 40 = .ok (.invokevirtual 160, 3) := by decide +kernel
theorem d26_43 : decode jdk_43_method_32_code 43 = .ok (.if_icmp .eq 6, 3) := by decide +kernel
theorem d26_46 : decode jdk_43_method_32_code 46 = .ok (.goto 9, 3) := by decide +kernel
theorem d26_49 : decode jdk_43_method_32_code 49 = .ok (.iinc 3 1, 3) := by decide +kernel
theorem d26_52 : decode jdk_43_method_32_code 52 = .ok (.goto (-34), 3) := by decide +kernel
theorem d26_55 : decode jdk_43_method_32_code 55 = .ok (.iload_n 3, 1) := by decide +kernel
theorem d26_56 : decode jdk_43_method_32_code 56 = .ok (.iload 4, 2) := by decide +kernel
theorem d26_58 : decode jdk_43_method_32_code 58 = .ok (.if_icmp .ne 5, 3) := by decide +kernel
theorem d26_61 : decode jdk_43_method_32_code 61 = .ok (.aload_n 0, 1) := by decide +kernel
theorem d26_62 : decode jdk_43_method_32_code 62 = .ok (.areturn, 1) := by decide +kernel
theorem d26_63 : decode jdk_43_method_32_code 63 = .ok (.aload_n 2, 1) := by decide +kernel
theorem d26_64 : decode jdk_43_method_32_code 64 = .ok (.invokevirtual 162, 3) := by decide +kernel
theorem d26_67 : decode jdk_43_method_32_code 67 = .ok (.astore 5, 2) := by decide +kernel
theorem d26_69 : decode jdk_43_method_32_code 69 = .ok (.aload 5, 2) := by decide +kernel
theorem d26_71 : decode jdk_43_method_32_code 71 = .ok (.ldc 168, 2) := by decide +kernel
theorem d26_73 : decode jdk_43_method_32_code 73 = .ok (.if_acmp .eq 17, 3) := by decide +kernel
theorem d26_76 : decode jdk_43_method_32_code 76 = .ok (.aload 5, 2) := by decide +kernel
theorem d26_78 : decode jdk_43_method_32_code 78 = .ok (.ldc 170, 2) := by decide +kernel
theorem d26_80 : decode jdk_43_method_32_code 80 = .ok (.if_acmp .eq 10, 3) := by decide +kernel
theorem d26_83 : decode jdk_43_method_32_code 83 = .ok (.aload 5, 2) := by decide +kernel
theorem d26_85 : decode jdk_43_method_32_code 85 = .ok (.ldc 172, 2) := by decide +kernel
theorem d26_87 : decode jdk_43_method_32_code 87 = .ok (.if_acmp .ne 12, 3) := by decide +kernel
theorem d26_99 : decode jdk_43_method_32_code 99 = .ok (.iload 4, 2) := by decide +kernel
theorem d26_101 : decode jdk_43_method_32_code 101 = .ok (.newarray .byte, 2) := by decide +kernel
theorem d26_103 : decode jdk_43_method_32_code 103 = .ok (.astore 6, 2) := by decide +kernel
theorem d26_105 : decode jdk_43_method_32_code 105 = .ok (.aload_n 1, 1) := by decide +kernel
theorem d26_106 : decode jdk_43_method_32_code 106 = .ok (.iconst 0, 1) := by decide +kernel
theorem d26_107 : decode jdk_43_method_32_code 107 = .ok (.aload 6, 2) := by decide +kernel
theorem d26_109 : decode jdk_43_method_32_code 109 = .ok (.iconst 0, 1) := by decide +kernel
theorem d26_110 : decode jdk_43_method_32_code 110 = .ok (.iload_n 3, 1) := by decide +kernel
theorem d26_111 : decode jdk_43_method_32_code 111 = .ok (.invokestatic 28, 3) := by decide +kernel
theorem d26_114 : decode jdk_43_method_32_code 114 = .ok (.iload_n 3, 1) := by decide +kernel
theorem d26_115 : decode jdk_43_method_32_code 115 = .ok (.istore 7, 2) := by decide +kernel
theorem d26_117 : decode jdk_43_method_32_code 117 = .ok (.iload 7, 2) := by decide +kernel
theorem d26_119 : decode jdk_43_method_32_code 119 = .ok (.iload 4, 2) := by decide +kernel
theorem d26_121 : decode jdk_43_method_32_code 121 = .ok (.if_icmp .ge 54, 3) := by decide +kernel
theorem d26_124 : decode jdk_43_method_32_code 124 = .ok (.aload_n 1, 1) := by decide +kernel
theorem d26_125 : decode jdk_43_method_32_code 125 = .ok (.iload 7, 2) := by decide +kernel
theorem d26_127 : decode jdk_43_method_32_code 127 = .ok (.baload, 1) := by decide +kernel
theorem d26_128 : decode jdk_43_method_32_code 128 = .ok (.sipush 255, 3) := by decide +kernel
theorem d26_131 : decode jdk_43_method_32_code 131 = .ok (.iand, 1) := by decide +kernel
theorem d26_132 : decode jdk_43_method_32_code 132 = .ok (.istore 8, 2) := by decide +kernel
theorem d26_134 : decode jdk_43_method_32_code 134 = .ok (.getstatic 66, 3) := by decide +kernel
theorem d26_137 : decode jdk_43_method_32_code 137 = .ok (.iload 8, 2) := by decide +kernel
theorem d26_139 : decode jdk_43_method_32_code 139 = .ok (.invokevirtual 160, 3) := by decide +kernel
theorem d26_142 : decode jdk_43_method_32_code 142 = .ok (.istore 8, 2) := by decide +kernel
theorem d26_144 : decode jdk_43_method_32_code 144 = .ok (.iload 8, 2) := by decide +kernel
theorem d26_146 : decode jdk_43_method_32_code 146 = .ok (.invokestatic 88, 3) := by decide +kernel
theorem d26_149 : decode jdk_43_method_32_code 149 = .ok (.ifCond .ne 12, 3) := by decide +kernel
theorem d26_161 : decode jdk_43_method_32_code 161 = .ok (.aload 6, 2) := by decide +kernel
theorem d26_163 : decode jdk_43_method_32_code 163 = .ok (.iload 7, 2) := by decide +kernel
theorem d26_165 : decode jdk_43_method_32_code 165 = .ok (.iload 8, 2) := by decide +kernel
theorem d26_167 : decode jdk_43_method_32_code 167 = .ok (.i2b, 1) := by decide +kernel
theorem d26_168 : decode jdk_43_method_32_code 168 = .ok (.bastore, 1) := by decide +kernel
theorem d26_169 : decode jdk_43_method_32_code 169 = .ok (.iinc 7 1, 3) := by decide +kernel
theorem d26_172 : decode jdk_43_method_32_code 172 = .ok (.goto (-55), 3) := by decide +kernel
theorem d26_175 : decode jdk_43_method_32_code 175 = .ok (.new 1, 3) := by decide +kernel
theorem d26_178 : decode jdk_43_method_32_code 178 = .ok (.dup, 1) := by decide +kernel
theorem d26_179 : decode jdk_43_method_32_code 179 = .ok (.aload 6, 2) := by decide +kernel
theorem d26_181 : decode jdk_43_method_32_code 181 = .ok (.iconst 0, 1) := by decide +kernel
theorem d26_182 : decode jdk_43_method_32_code 182 = .ok (.invokespecial 112, 3) := by decide +kernel
theorem d26_185 : decode jdk_43_method_32_code 185 = .ok (.areturn, 1) := by decide +kernel
abbrev RMrmLLow : Room := { frames := 2, cells := 8, slots := 48, locals := 27 }
theorem ef_rmLLow (m : MethodId) (a1 : Addr) (t : Addr) (rt : Addr) : entryFrame m #[(.ref a1), (.ref t), (.ref rt)] 9 = mkF m 0 #[.val (.ref a1), .val (.ref t), .val (.ref rt), .unset, .unset, .unset, .unset, .unset, .unset] [] := by first | (simp [entryFrame, mkF, argsToLocals, Value.category]; done) | rfl
def QrmLLow (Z : State) (zc : Int32) (fm : Value) (rt : Addr) (bl : Addr) (lg : Addr) (lv : Addr) (lk : ClassId) (ci : Addr) (a1 : Addr) (t : Addr) (kb : ClassId) (cs : List Int32) (h0 : Heap) (v : Option Value) (h : Heap) (L : List Loc) : Prop := ∃ (r : Addr), v = some (.ref r) ∧ Fr Z.heap.size L ∧ Keep h0 h [] ∧ IsStr Z h r (cs.map own_low)
set_option maxRecDepth 65536 in
set_option maxHeartbeats 40000000 in
theorem rmLLow (l : Launch) (Z : State) (a0 : Array Value) (hw : ∀ d ∈ tables_1, d.before a0 Z = true) (zc : Int32) (fm : Value) (rt : Addr) (bl : Addr) (lg : Addr) (lv : Addr) (lk : ClassId) (ci : Addr) (S_CS : Sta Z Z.heap "java/lang/String" "COMPACT_STRINGS" "Z" (.int zc)) (hzc : ¬ zc = 0) (S_SF : Sta Z Z.heap "jdk/internal/util/Preconditions" "SIOOBE_FORMATTER" "Ljava/util/function/BiFunction;" fm) (h_fm : fm.isRef = true) (S_RT : Sta Z Z.heap "java/util/Locale" "ROOT" "Ljava/util/Locale;" (.ref rt)) (E_rt : Exa Z Z.heap rt "java/util/Locale") (F_bl : Fld Z Z.heap rt "java/util/Locale" "baseLocale" "Lsun/util/locale/BaseLocale;" (.ref bl)) (E_bl : Exa Z Z.heap bl "sun/util/locale/BaseLocale") (F_lg : Fld Z Z.heap bl "sun/util/locale/BaseLocale" "language" "Ljava/lang/String;" (.ref lg)) (E_lg : Exa Z Z.heap lg "java/lang/String") (F_lv : Fld Z Z.heap lg "java/lang/String" "value" "[B" (.ref lv)) (A_lv : Arv Z Z.heap lv lk .byte (0 : Int32) [] (.int (0 : Int32))) (S_CI : Sta Z Z.heap "java/lang/CharacterDataLatin1" "instance" "Ljava/lang/CharacterDataLatin1;" (.ref ci)) (E_ci : Exa Z Z.heap ci "java/lang/CharacterDataLatin1") (hEL : EW Z a0 EL) (ws : List Jvm.Cond) (a1 : Addr) (t : Addr) (kb : ClassId) (cs : List Int32) (h0 : Heap) (O0 : Ext Z.heap h0) (Ss : IsStr Z h0 a1 cs) (At : Arv Z h0 t kb .byte (Int32.ofNat cs.length) (BB cs) (.int (0 : Int32))) (hcs : ∀ c ∈ cs, ¬ c < 0 ∧ ¬ (255 : Int32) < c) (hl : cs.length ≤ 8) :
    MetFree l (⟨"java/lang/StringLatin1", "toLowerCase", "(Ljava/lang/String;[BLjava/util/Locale;)Ljava/lang/String;"⟩ : MethodName) (head1 (Jvm.Cond.code (⟨"java/lang/StringLatin1", "toLowerCase", "(Ljava/lang/String;[BLjava/util/Locale;)Ljava/lang/String;"⟩ : MethodName) jdk_43_method_32_code 9 (some (.object "java/lang/String")) :: ws) RMrmLLow) (fun a U => a = #[(.ref a1), (.ref t), (.ref rt)] ∧ Z.Warmed39 U.vm ∧ U.heap = h0 ∧ CHv Z EL U.vm h0) (fun _ _ _ _ _ => True) (fun _ U o U' => ∃ v L, o = .returned v ∧ QrmLLow Z zc fm rt bl lg lv lk ci a1 t kb cs h0 v U'.heap L ∧ CHr Z EL U.vm U.heap U'.vm U'.heap ∧ ReturnedEndW U o U' L RMrmLLow.cells RMrmLLow.slots) := by
  refine MetFree.of_bodySF (plainFor_of_name pn_java_lang_StringLatin1) hisR ?_
  intro p e s m args below meth c s₁ Bd hml0 hP hK
  obtain ⟨rfl, hZ, hh, hC0⟩ := hP
  have hx := Bd.exec
  have hby := Bd.bytes
  have hlk : meth.locks = false := BodyLoose.notSynchronized Bd
  have hret := Bd.returns
  have hml : c.maxLocals = 9 := hml0
  have hown : s.vm.findClass "java/lang/StringLatin1" = some m.cls := findClass_of_methodNamed Bd.named
  have hnm := (name_of_methodNamed Bd.named Bd.method).1
  have X0 : Stand p l e RMrmLLow (s.setVm s.vm) m #[(.ref a1), (.ref t), (.ref rt)] below meth c s₁ [] 0 0 := Stand.of_body Bd
  have e0 : s₁.heap = h0 := by rw [← hh, Bd.state]; rfl
  have N0 := Fr.nil Z.heap.size
  have hZ : Z.Warmed39 (s.setVm s.vm).vm := hZ
  have hS0 : s.Since s.vm h0.size := (State.WarmedH.refl s).since _
  have hk0 : h0.size ≤ h0.size := Nat.le_refl _
  have HR0 : CHr Z EL s.vm h0 s.vm h0 := CHr.refl hC0
  have hwS : ∀ d ∈ Bundle.stringAtoms, d.before a0 Z = true := fun d hd => hw d (own_strAtoms d hd)
  show OEnd p e below (GW s Z EL (QrmLLow Z zc fm rt bl lg lv lk ci a1 t kb cs h0) RMrmLLow.cells RMrmLLow.slots) _
  refine OEnd.of (fun tq kq => castTop (ef_rmLLow m a1 t rt) kq) ?_
  have hl4 : cs.length ≤ 4000 := Nat.le_trans hl (by decide)
  refine OEnd.of (fun tq kq => XS.aloadN X0.here hx rfl (hb hby d26_0) rfl rfl kq) ?_
  show OEnd p e below _ (s₁.setTop (mkF m 1 #[.val (.ref a1), .val (.ref t), .val (.ref rt), .unset, .unset, .unset, .unset, .unset, .unset] [(.ref rt)]))
  refine OEnd.of (fun tq kq => XS.ifnonnullYes X0.here hx rfl (pc0 := 1) (pc' := 12) rfl (hb hby d26_1) rfl (by decide) (by decide) kq) ?_
  show OEnd p e below _ (s₁.setTop (mkF m 12 #[.val (.ref a1), .val (.ref t), .val (.ref rt), .unset, .unset, .unset, .unset, .unset, .unset] []))
  refine OEnd.of (fun tq kq => XS.aloadN X0.here hx rfl (hb hby d26_12) rfl rfl kq) ?_
  show OEnd p e below _ (s₁.setTop (mkF m 13 #[.val (.ref a1), .val (.ref t), .val (.ref rt), .unset, .unset, .unset, .unset, .unset, .unset] [(.ref t)]))
  have Vc180 := At
  obtain ⟨cl180, Ar180, -, S180, N180, -, -⟩ := Vc180
  refine OEnd.of (X0.arraylength hx (by rw [e0]; exact Ar180.1) (State.isArrayOf_alike hZ.alike Ar180.2.1) (g := (mkF m 13 #[.val (.ref a1), .val (.ref t), .val (.ref rt), .unset, .unset, .unset, .unset, .unset, .unset] [(.ref t)])) rfl rfl (hb hby d26_13)) ?_
  rw [len_of S180 N180]
  show OEnd p e below _ (s₁.setTop (mkF m 14 #[.val (.ref a1), .val (.ref t), .val (.ref rt), .unset, .unset, .unset, .unset, .unset, .unset] [(.int (Int32.ofNat cs.length))]))
  refine OEnd.of (fun tq kq => XS.istore X0.here hx rfl (hb hby d26_14) rfl (l' := #[.val (.ref a1), .val (.ref t), .val (.ref rt), .unset, .val (.int (Int32.ofNat cs.length)), .unset, .unset, .unset, .unset]) rfl kq) ?_
  show OEnd p e below _ (s₁.setTop (mkF m 16 #[.val (.ref a1), .val (.ref t), .val (.ref rt), .unset, .val (.int (Int32.ofNat cs.length)), .unset, .unset, .unset, .unset] []))
  refine OEnd.of (fun tq kq => XS.iconst X0.here hx rfl (hb hby d26_16) kq) ?_
  show OEnd p e below _ (s₁.setTop (mkF m 17 #[.val (.ref a1), .val (.ref t), .val (.ref rt), .unset, .val (.int (Int32.ofNat cs.length)), .unset, .unset, .unset, .unset] [(.int (0 : Int32))]))
  refine OEnd.of (fun tq kq => XS.istoreN X0.here hx rfl (hb hby d26_17) rfl (l' := #[.val (.ref a1), .val (.ref t), .val (.ref rt), .val (.int (0 : Int32)), .val (.int (Int32.ofNat cs.length)), .unset, .unset, .unset, .unset]) rfl kq) ?_
  show OEnd p e below _ (s₁.setTop (mkF m 18 #[.val (.ref a1), .val (.ref t), .val (.ref rt), .val (.int (0 : Int32)), .val (.int (Int32.ofNat cs.length)), .unset, .unset, .unset, .unset] []))
  have J181 : ∀ (vm181 : Vm) (T181 : State) (Lo181 : List Loc) (k : Nat) (sl5 : Slot) (h_sl5 : One sl5), Stand p l e RMrmLLow (s.setVm vm181) m #[(.ref a1), (.ref t), (.ref rt)] below meth c T181 Lo181 0 0 → T181.heap = h0 → Fr Z.heap.size Lo181 → (∃ k0, s.Since vm181 k0 ∧ k0 ≤ h0.size) → Z.Warmed39 (s.setVm vm181).vm → (s.setVm vm181).vm.findClass "java/lang/StringLatin1" = some m.cls → CHr Z EL s.vm h0 vm181 h0 → (k ≤ cs.length) → (∀ j, j < k → cs.getD j 0 = own_low (cs.getD j 0)) → OEnd p e below (GW s Z EL (QrmLLow Z zc fm rt bl lg lv lk ci a1 t kb cs h0) RMrmLLow.cells RMrmLLow.slots) (T181.setTop (mkF m 55 #[.val (.ref a1), .val (.ref t), .val (.ref rt), .val (.int (Int32.ofNat k)), .val (.int (Int32.ofNat cs.length)), sl5, .unset, .unset, .unset] [])) := by
    rintro vm181 T181 Lo181 k sl5 h_sl5 X181 e181 N181 ⟨kk181, hS181, hk181⟩ hZ181 hown181 HR181 hk hn
    show OEnd p e below _ (T181.setTop (mkF m 55 #[.val (.ref a1), .val (.ref t), .val (.ref rt), .val (.int (Int32.ofNat k)), .val (.int (Int32.ofNat cs.length)), sl5, .unset, .unset, .unset] []))
    refine OEnd.of (fun tq kq => XS.iloadN X181.here hx rfl (hb hby d26_55) rfl kq) ?_
    show OEnd p e below _ (T181.setTop (mkF m 56 #[.val (.ref a1), .val (.ref t), .val (.ref rt), .val (.int (Int32.ofNat k)), .val (.int (Int32.ofNat cs.length)), sl5, .unset, .unset, .unset] [(.int (Int32.ofNat k))]))
    refine OEnd.of (fun tq kq => XS.iload X181.here hx rfl (hb hby d26_56) rfl kq) ?_
    show OEnd p e below _ (T181.setTop (mkF m 58 #[.val (.ref a1), .val (.ref t), .val (.ref rt), .val (.int (Int32.ofNat k)), .val (.int (Int32.ofNat cs.length)), sl5, .unset, .unset, .unset] [(.int (Int32.ofNat cs.length)), (.int (Int32.ofNat k))]))
    by_cases hc182 : (Int32.ofNat k) = (Int32.ofNat cs.length)
    · refine OEnd.of (fun tq kq => XS.icmpNo X181.here hx rfl (hb hby d26_58) rfl (teq hc182).2 kq) ?_
      show OEnd p e below _ (T181.setTop (mkF m 61 #[.val (.ref a1), .val (.ref t), .val (.ref rt), .val (.int (Int32.ofNat k)), .val (.int (Int32.ofNat cs.length)), sl5, .unset, .unset, .unset] []))
      refine OEnd.of (fun tq kq => XS.aloadN X181.here hx rfl (hb hby d26_61) rfl rfl kq) ?_
      show OEnd p e below _ (T181.setTop (mkF m 62 #[.val (.ref a1), .val (.ref t), .val (.ref rt), .val (.int (Int32.ofNat k)), .val (.int (Int32.ofNat cs.length)), sl5, .unset, .unset, .unset] [(.ref a1)]))
      have Sy : IsStr Z h0 a1 (cs.map own_low) := by
        have hkl : k = cs.length := (own_eqN (Nat.le_trans hk hl4) hl4).mp hc182
        rw [own_mapSame (hkl ▸ hn)]; exact Ss
      exact OEnd.retAW X181 hx hlk e181 hh hS181 hk181 hEL hZ181 HR181 hret rfl rfl (hb hby d26_62) ⟨a1, rfl, N181, (Keep.refl h0 []), Sy⟩ (by decide) (by decide)
    · refine OEnd.of (fun tq kq => XS.icmpYes X181.here hx rfl (pc0 := 58) (pc' := 63) rfl (hb hby d26_58) rfl (feq hc182).2 (by decide) (by decide) kq) ?_
      show OEnd p e below _ (T181.setTop (mkF m 63 #[.val (.ref a1), .val (.ref t), .val (.ref rt), .val (.int (Int32.ofNat k)), .val (.int (Int32.ofNat cs.length)), sl5, .unset, .unset, .unset] []))
      refine OEnd.of (fun tq kq => XS.aloadN X181.here hx rfl (hb hby d26_63) rfl rfl kq) ?_
      show OEnd p e below _ (T181.setTop (mkF m 64 #[.val (.ref a1), .val (.ref t), .val (.ref rt), .val (.int (Int32.ofNat k)), .val (.int (Int32.ofNat cs.length)), sl5, .unset, .unset, .unset] [(.ref rt)]))
      obtain ⟨cq183, kq183, q183a, q183b, q183c⟩ := isOf hZ181 e181 (Exa.ext O0 E_rt)
      obtain ⟨_, _, ⟨T183, L183, k183, n183⟩, -, X183, ⟨Lc183, hQ183, l183, y183, z183⟩, st183⟩ := X181.virtualBack hx (y := (⟨"java/util/Locale", "getLanguage", "()Ljava/lang/String;"⟩ : MethodName)) (z := (⟨"java/util/Locale", "getLanguage", "()Ljava/lang/String;"⟩ : MethodName)) hown181 (mvT hZ181 (hw _ (List.mem_of_getElem? (i := 165) rfl))) (mvT hZ181 (hw _ (List.mem_of_getElem? (i := 166) rfl))) (notFace_of_selects (args := #[]) (mvT hZ181 (hw _ (List.mem_of_getElem? (i := 168) rfl)))) (mvT hZ181 (hw _ (List.mem_of_getElem? (i := 168) rfl))) (mvT hZ181 (hw _ (List.mem_of_getElem? (i := 167) rfl))) (by decide) (backOf (W := 0) (rmLang l Z a0 hw zc fm rt bl lg lv lk ci S_CS hzc S_SF h_fm S_RT E_rt F_bl E_bl F_lg E_lg F_lv A_lv S_CI E_ci []  h0 O0 ) hZ181 (hw _ (List.mem_of_getElem? (i := 169) rfl)) (hw _ (List.mem_of_getElem? (i := 108) rfl)) (by decide) (by decide)) q183a q183c (g := (mkF m 64 #[.val (.ref a1), .val (.ref t), .val (.ref rt), .val (.int (Int32.ofNat k)), .val (.int (Int32.ofNat cs.length)), sl5, .unset, .unset, .unset] [(.ref rt)])) rfl (by rw [hml]; rfl) (Steps.refl _) (argsL := []) (rest := []) (lenOf pd_2829Ljava2flang2fString3b rfl) rfl (by show 2 * 0 + _ ≤ _; exact Nat.le_of_eq rfl) (hb hby d26_64) (fun _ _ => ⟨rfl, e181, (by decide : 0 + 0 ≤ _), (by decide : 0 + 0 ≤ _)⟩)
      dsimp only [Pt.U, Pt.locs, Pt.cells, Pt.slots] at X183 l183 y183 z183 st183 hQ183
      subst l183 y183 z183
      obtain ⟨rfl, Nq183, e183⟩ := hQ183
      have N184 := Fr.app N181 Nq183
      refine OEnd.of (fun tq kq => st183.trans kq) ?_
      show OEnd p e below _ (T183.setTop (mkF m 67 #[.val (.ref a1), .val (.ref t), .val (.ref rt), .val (.int (Int32.ofNat k)), .val (.int (Int32.ofNat cs.length)), sl5, .unset, .unset, .unset] [(.ref lg)]))
      refine OEnd.of (fun tq kq => XS.astore X183.here hx rfl (hb hby d26_67) rfl rfl (l' := #[.val (.ref a1), .val (.ref t), .val (.ref rt), .val (.int (Int32.ofNat k)), .val (.int (Int32.ofNat cs.length)), .val (.ref lg), .unset, .unset, .unset]) (XS.store1 rfl h_sl5 rfl) kq) ?_
      show OEnd p e below _ (T183.setTop (mkF m 69 #[.val (.ref a1), .val (.ref t), .val (.ref rt), .val (.int (Int32.ofNat k)), .val (.int (Int32.ofNat cs.length)), .val (.ref lg), .unset, .unset, .unset] []))
      refine OEnd.of (fun tq kq => XS.aload X183.here hx rfl (hb hby d26_69) rfl rfl kq) ?_
      show OEnd p e below _ (T183.setTop (mkF m 71 #[.val (.ref a1), .val (.ref t), .val (.ref rt), .val (.int (Int32.ofNat k)), .val (.int (Int32.ofNat cs.length)), .val (.ref lg), .unset, .unset, .unset] [(.ref lg)]))
      obtain ⟨ba185, T185, h185, k1185, bb185, kb185, X185, e185, E185, S185, hk185, hZ185, hown185, Ex185, Cd185, Vl185, Ar185, lta185, ltb185, C185, Lt185, Sn185, st185⟩ := ldcCH X183 hx hZ181 hown181 (hw _ (List.mem_of_getElem? (i := 180) rfl)) hwS e183 hS181 hk181 hEL (List.mem_of_getElem? (i := 1) rfl) HR181.1 (vs := [(.int (116 : Int32)), (.int (114 : Int32))]) (z := (2 : Int32)) own_lit_74_72 (by decide) (by decide) (g := (mkF m 71 #[.val (.ref a1), .val (.ref t), .val (.ref rt), .val (.int (Int32.ofNat k)), .val (.int (Int32.ofNat cs.length)), .val (.ref lg), .unset, .unset, .unset] [(.ref lg)])) rfl (hb hby d26_71) (n := 8) (by decide) (by decide) (by decide) (by decide)
      refine OEnd.of st185 ?_
      have CR186 : CHr Z EL vm181 h0 T185.vm h185 := C185
      have HR187 : CHr Z EL s.vm h0 T185.vm h185 := HR181.trans CR186
      show OEnd p e below _ (T185.setTop (mkF m 73 #[.val (.ref a1), .val (.ref t), .val (.ref rt), .val (.int (Int32.ofNat k)), .val (.int (Int32.ofNat cs.length)), .val (.ref lg), .unset, .unset, .unset] [(.ref ba185), (.ref lg)]))
      have K188 : Keep h0 h185 [] := ((Keep.refl h0 []).ext E185)
      have O189 : Ext Z.heap h185 := own_extKeep O0 K188 all0
      refine OEnd.of (fun tq kq => Jvm.RoadKit.acmp (g := (mkF m 73 #[.val (.ref a1), .val (.ref t), .val (.ref rt), .val (.int (Int32.ofNat k)), .val (.int (Int32.ofNat cs.length)), .val (.ref lg), .unset, .unset, .unset] [(.ref ba185), (.ref lg)])) X185 hx rfl rfl rfl (pc0 := 73) (pc' := 76) (same := false) rfl (hb hby d26_73) rfl (decide_eq_false (fun q => own_strNe (Fld.ext O189 F_lv) Vl185 (Arv.ext A_lv O189) Ar185 (by decide) (Value.ref.inj q))) (by decide) (by decide) kq) ?_
      show OEnd p e below _ (T185.setTop (mkF m 76 #[.val (.ref a1), .val (.ref t), .val (.ref rt), .val (.int (Int32.ofNat k)), .val (.int (Int32.ofNat cs.length)), .val (.ref lg), .unset, .unset, .unset] []))
      refine OEnd.of (fun tq kq => XS.aload X185.here hx rfl (hb hby d26_76) rfl rfl kq) ?_
      show OEnd p e below _ (T185.setTop (mkF m 78 #[.val (.ref a1), .val (.ref t), .val (.ref rt), .val (.int (Int32.ofNat k)), .val (.int (Int32.ofNat cs.length)), .val (.ref lg), .unset, .unset, .unset] [(.ref lg)]))
      obtain ⟨ba190, T190, h190, k1190, bb190, kb190, X190, e190, E190, S190, hk190, hZ190, hown190, Ex190, Cd190, Vl190, Ar190, lta190, ltb190, C190, Lt190, Sn190, st190⟩ := ldcCH X185 hx hZ185 hown185 (hw _ (List.mem_of_getElem? (i := 181) rfl)) hwS e185 S185 hk185 hEL (List.mem_of_getElem? (i := 2) rfl) HR187.1 (vs := [(.int (97 : Int32)), (.int (122 : Int32))]) (z := (2 : Int32)) own_lit_61_7a (by decide) (by decide) (g := (mkF m 78 #[.val (.ref a1), .val (.ref t), .val (.ref rt), .val (.int (Int32.ofNat k)), .val (.int (Int32.ofNat cs.length)), .val (.ref lg), .unset, .unset, .unset] [(.ref lg)])) rfl (hb hby d26_78) (n := 8) (by decide) (by decide) (by decide) (by decide)
      refine OEnd.of st190 ?_
      have CR191 : CHr Z EL T185.vm h185 T190.vm h190 := C190
      have HR192 : CHr Z EL s.vm h0 T190.vm h190 := HR187.trans CR191
      show OEnd p e below _ (T190.setTop (mkF m 80 #[.val (.ref a1), .val (.ref t), .val (.ref rt), .val (.int (Int32.ofNat k)), .val (.int (Int32.ofNat cs.length)), .val (.ref lg), .unset, .unset, .unset] [(.ref ba190), (.ref lg)]))
      have K193 : Keep h185 h190 [] := ((Keep.refl h185 []).ext E190)
      have O194 : Ext Z.heap h190 := own_extKeep O189 K193 all0
      refine OEnd.of (fun tq kq => Jvm.RoadKit.acmp (g := (mkF m 80 #[.val (.ref a1), .val (.ref t), .val (.ref rt), .val (.int (Int32.ofNat k)), .val (.int (Int32.ofNat cs.length)), .val (.ref lg), .unset, .unset, .unset] [(.ref ba190), (.ref lg)])) X190 hx rfl rfl rfl (pc0 := 80) (pc' := 83) (same := false) rfl (hb hby d26_80) rfl (decide_eq_false (fun q => own_strNe (Fld.ext O194 F_lv) Vl190 (Arv.ext A_lv O194) Ar190 (by decide) (Value.ref.inj q))) (by decide) (by decide) kq) ?_
      show OEnd p e below _ (T190.setTop (mkF m 83 #[.val (.ref a1), .val (.ref t), .val (.ref rt), .val (.int (Int32.ofNat k)), .val (.int (Int32.ofNat cs.length)), .val (.ref lg), .unset, .unset, .unset] []))
      refine OEnd.of (fun tq kq => XS.aload X190.here hx rfl (hb hby d26_83) rfl rfl kq) ?_
      show OEnd p e below _ (T190.setTop (mkF m 85 #[.val (.ref a1), .val (.ref t), .val (.ref rt), .val (.int (Int32.ofNat k)), .val (.int (Int32.ofNat cs.length)), .val (.ref lg), .unset, .unset, .unset] [(.ref lg)]))
      obtain ⟨ba195, T195, h195, k1195, bb195, kb195, X195, e195, E195, S195, hk195, hZ195, hown195, Ex195, Cd195, Vl195, Ar195, lta195, ltb195, C195, Lt195, Sn195, st195⟩ := ldcCH X190 hx hZ190 hown190 (hw _ (List.mem_of_getElem? (i := 182) rfl)) hwS e190 S190 hk190 hEL (List.mem_of_getElem? (i := 3) rfl) HR192.1 (vs := [(.int (108 : Int32)), (.int (116 : Int32))]) (z := (2 : Int32)) own_lit_6c_74 (by decide) (by decide) (g := (mkF m 85 #[.val (.ref a1), .val (.ref t), .val (.ref rt), .val (.int (Int32.ofNat k)), .val (.int (Int32.ofNat cs.length)), .val (.ref lg), .unset, .unset, .unset] [(.ref lg)])) rfl (hb hby d26_85) (n := 8) (by decide) (by decide) (by decide) (by decide)
      refine OEnd.of st195 ?_
      have CR196 : CHr Z EL T190.vm h190 T195.vm h195 := C195
      have HR197 : CHr Z EL s.vm h0 T195.vm h195 := HR192.trans CR196
      show OEnd p e below _ (T195.setTop (mkF m 87 #[.val (.ref a1), .val (.ref t), .val (.ref rt), .val (.int (Int32.ofNat k)), .val (.int (Int32.ofNat cs.length)), .val (.ref lg), .unset, .unset, .unset] [(.ref ba195), (.ref lg)]))
      have K198 : Keep h190 h195 [] := ((Keep.refl h190 []).ext E195)
      have O199 : Ext Z.heap h195 := own_extKeep O194 K198 all0
      refine OEnd.of (fun tq kq => Jvm.RoadKit.acmp (g := (mkF m 87 #[.val (.ref a1), .val (.ref t), .val (.ref rt), .val (.int (Int32.ofNat k)), .val (.int (Int32.ofNat cs.length)), .val (.ref lg), .unset, .unset, .unset] [(.ref ba195), (.ref lg)])) X195 hx rfl rfl rfl (pc0 := 87) (pc' := 99) (same := false) rfl (hb hby d26_87) rfl (decide_eq_false (fun q => own_strNe (Fld.ext O199 F_lv) Vl195 (Arv.ext A_lv O199) Ar195 (by decide) (Value.ref.inj q))) (by decide) (by decide) kq) ?_
      show OEnd p e below _ (T195.setTop (mkF m 99 #[.val (.ref a1), .val (.ref t), .val (.ref rt), .val (.int (Int32.ofNat k)), .val (.int (Int32.ofNat cs.length)), .val (.ref lg), .unset, .unset, .unset] []))
      refine OEnd.of (fun tq kq => XS.iload X195.here hx rfl (hb hby d26_99) rfl kq) ?_
      show OEnd p e below _ (T195.setTop (mkF m 101 #[.val (.ref a1), .val (.ref t), .val (.ref rt), .val (.int (Int32.ofNat k)), .val (.int (Int32.ofNat cs.length)), .val (.ref lg), .unset, .unset, .unset] [(.int (Int32.ofNat cs.length))]))
      obtain ⟨T200, h200, k200, X200, e200, E200, A200, st200⟩ := newP X195 hx hZ195 (hw _ (List.mem_of_getElem? (i := 23) rfl)) e195 (g := (mkF m 101 #[.val (.ref a1), .val (.ref t), .val (.ref rt), .val (.int (Int32.ofNat k)), .val (.int (Int32.ofNat cs.length)), .val (.ref lg), .unset, .unset, .unset] [(.int (Int32.ofNat cs.length))])) rfl (hb hby d26_101) rfl (own_nn hl) (cap := 8) (own_capN hl) (by decide) (by decide) (by decide)
      obtain ⟨b200, g200⟩ : ∃ z, z = h195.size := ⟨_, rfl⟩
      rw [← g200] at A200 st200
      refine OEnd.of st200 ?_
      have V200 : Arv Z h200 b200 k200 .byte (Int32.ofNat cs.length) (List.replicate cs.length (.int (0 : Int32))) (.int (0 : Int32)) := (Arv.new A200 (own_nn hl)).pad (pad_rep [] (.int (0 : Int32)) cs.length)
      have f200 : Z.heap.size ≤ b200 := Nat.le_trans O199.1 (Nat.le_of_eq g200.symm)
      have CR201 : CHr Z EL T195.vm h195 T195.vm h200 := CHr.ext E200 HR197.1
      have HR202 : CHr Z EL s.vm h0 T195.vm h200 := HR197.trans CR201
      have Sf203 : Safe Z EL T195.vm h200 b200 := Safe.ext E200 HR197.1 (Safe.new (Nat.le_of_eq g200.symm))
      have lt204 : b200 < h200.size := V200.lt
      show OEnd p e below _ (T200.setTop (mkF m 103 #[.val (.ref a1), .val (.ref t), .val (.ref rt), .val (.int (Int32.ofNat k)), .val (.int (Int32.ofNat cs.length)), .val (.ref lg), .unset, .unset, .unset] [(.ref b200)]))
      refine OEnd.of (fun tq kq => XS.astore X200.here hx rfl (hb hby d26_103) rfl rfl (l' := #[.val (.ref a1), .val (.ref t), .val (.ref rt), .val (.int (Int32.ofNat k)), .val (.int (Int32.ofNat cs.length)), .val (.ref lg), .val (.ref b200), .unset, .unset]) rfl kq) ?_
      show OEnd p e below _ (T200.setTop (mkF m 105 #[.val (.ref a1), .val (.ref t), .val (.ref rt), .val (.int (Int32.ofNat k)), .val (.int (Int32.ofNat cs.length)), .val (.ref lg), .val (.ref b200), .unset, .unset] []))
      refine OEnd.of (fun tq kq => XS.aloadN X200.here hx rfl (hb hby d26_105) rfl rfl kq) ?_
      show OEnd p e below _ (T200.setTop (mkF m 106 #[.val (.ref a1), .val (.ref t), .val (.ref rt), .val (.int (Int32.ofNat k)), .val (.int (Int32.ofNat cs.length)), .val (.ref lg), .val (.ref b200), .unset, .unset] [(.ref t)]))
      refine OEnd.of (fun tq kq => XS.iconst X200.here hx rfl (hb hby d26_106) kq) ?_
      show OEnd p e below _ (T200.setTop (mkF m 107 #[.val (.ref a1), .val (.ref t), .val (.ref rt), .val (.int (Int32.ofNat k)), .val (.int (Int32.ofNat cs.length)), .val (.ref lg), .val (.ref b200), .unset, .unset] [(.int (0 : Int32)), (.ref t)]))
      refine OEnd.of (fun tq kq => XS.aload X200.here hx rfl (hb hby d26_107) rfl rfl kq) ?_
      show OEnd p e below _ (T200.setTop (mkF m 109 #[.val (.ref a1), .val (.ref t), .val (.ref rt), .val (.int (Int32.ofNat k)), .val (.int (Int32.ofNat cs.length)), .val (.ref lg), .val (.ref b200), .unset, .unset] [(.ref b200), (.int (0 : Int32)), (.ref t)]))
      refine OEnd.of (fun tq kq => XS.iconst X200.here hx rfl (hb hby d26_109) kq) ?_
      show OEnd p e below _ (T200.setTop (mkF m 110 #[.val (.ref a1), .val (.ref t), .val (.ref rt), .val (.int (Int32.ofNat k)), .val (.int (Int32.ofNat cs.length)), .val (.ref lg), .val (.ref b200), .unset, .unset] [(.int (0 : Int32)), (.ref b200), (.int (0 : Int32)), (.ref t)]))
      refine OEnd.of (fun tq kq => XS.iloadN X200.here hx rfl (hb hby d26_110) rfl kq) ?_
      show OEnd p e below _ (T200.setTop (mkF m 111 #[.val (.ref a1), .val (.ref t), .val (.ref rt), .val (.int (Int32.ofNat k)), .val (.int (Int32.ofNat cs.length)), .val (.ref lg), .val (.ref b200), .unset, .unset] [(.int (Int32.ofNat k)), (.int (0 : Int32)), (.ref b200), (.int (0 : Int32)), (.ref t)]))
      obtain ⟨vs0, hvs0⟩ : ∃ z, z = ((List.replicate cs.length (.int (0 : Int32) : Value)).take (0 : Int32).toNatClampNeg ++ (List.range (Int32.ofNat k).toNatClampNeg).map (fun i => (BB cs).getD ((Int32.ofNat 0).toNatClampNeg + i) (.int (0 : Int32))) ++ (List.replicate cs.length (.int (0 : Int32) : Value)).drop ((0 : Int32).toNatClampNeg + (Int32.ofNat k).toNatClampNeg)) := ⟨_, rfl⟩
      have hk8 : k ≤ 8 := Nat.le_trans hk hl
      have K206 : Keep h0 h200 [] := (((K188.ext E190).ext E195).ext E200)
      obtain ⟨T205, h205, L205, X205, e205, N205, Kq205, V205, st205⟩ := cpA X200 hx hZ195 hown195 (hw _ (List.mem_of_getElem? (i := 183) rfl)) (hw _ (List.mem_of_getElem? (i := 136) rfl)) (hw _ (List.mem_of_getElem? (i := 134) rfl)) (hw _ (List.mem_of_getElem? (i := 135) rfl)) e200 (At.keep K206 nin0) V200 (Or.inl ⟨rfl, rfl⟩) (own_nn (Nat.zero_le 8 : 0 ≤ 8)) (by decide) (own_nn hk8) (by rw [own_ofN (k := k) (c := 4000) (by omega) (Nat.le_refl _), own_ofN (k := cs.length) (c := 4000) (by omega) (Nat.le_refl _)]; show 0 + k ≤ _; omega) (by rw [own_ofN (k := k) (c := 4000) (by omega) (Nat.le_refl _), own_ofN (k := cs.length) (c := 4000) (by omega) (Nat.le_refl _)]; show 0 + k ≤ _; omega) rfl (by rw [own_ofN (c := 4000) (by omega) (Nat.le_refl _)]; show 0 + k ≤ _; simp; omega) N184 f200 (g := (mkF m 111 #[.val (.ref a1), .val (.ref t), .val (.ref rt), .val (.int (Int32.ofNat k)), .val (.int (Int32.ofNat cs.length)), .val (.ref lg), .val (.ref b200), .unset, .unset] [(.int (Int32.ofNat k)), (.int (0 : Int32)), (.ref b200), (.int (0 : Int32)), (.ref t)])) rfl (by rw [hml]; rfl) rfl (hb hby d26_111) (by decide) (W := 0) (by show 2 * 0 + _ ≤ _; exact Nat.le_of_eq rfl) (by decide)
      refine OEnd.of st205 ?_
      have Vn205 : Arv Z h205 b200 k200 .byte (Int32.ofNat cs.length) vs0 (.int (0 : Int32)) := by have q := V205; rw [← hvs0] at q; exact q
      have CR207 : CHr Z EL T195.vm h200 T195.vm h205 := CHr.keep Kq205 (allS Sf203 all0) HR202.1
      have HR208 : CHr Z EL s.vm h0 T195.vm h205 := HR202.trans CR207
      have Sf209 : Safe Z EL T195.vm h205 b200 := CR207.safe lt204 Sf203
      show OEnd p e below _ (T205.setTop (mkF m 114 #[.val (.ref a1), .val (.ref t), .val (.ref rt), .val (.int (Int32.ofNat k)), .val (.int (Int32.ofNat cs.length)), .val (.ref lg), .val (.ref b200), .unset, .unset] []))
      have hLw0 : own_Lw cs vs0 k := by rw [hvs0]; exact own_Lw.first hk hl4 hn
      refine OEnd.of (fun tq kq => XS.iloadN X205.here hx rfl (hb hby d26_114) rfl kq) ?_
      show OEnd p e below _ (T205.setTop (mkF m 115 #[.val (.ref a1), .val (.ref t), .val (.ref rt), .val (.int (Int32.ofNat k)), .val (.int (Int32.ofNat cs.length)), .val (.ref lg), .val (.ref b200), .unset, .unset] [(.int (Int32.ofNat k))]))
      refine OEnd.of (fun tq kq => XS.istore X205.here hx rfl (hb hby d26_115) rfl (l' := #[.val (.ref a1), .val (.ref t), .val (.ref rt), .val (.int (Int32.ofNat k)), .val (.int (Int32.ofNat cs.length)), .val (.ref lg), .val (.ref b200), .val (.int (Int32.ofNat k)), .unset]) rfl kq) ?_
      show OEnd p e below _ (T205.setTop (mkF m 117 #[.val (.ref a1), .val (.ref t), .val (.ref rt), .val (.int (Int32.ofNat k)), .val (.int (Int32.ofNat cs.length)), .val (.ref lg), .val (.ref b200), .val (.int (Int32.ofNat k)), .unset] []))
      have J210 : ∀ (mm210 : Nat) (vm210 : Vm) (T210 : State) (h210 : Heap) (Lo210 : List Loc) (j : Nat) (sl8 : Slot) (h_sl8 : One sl8) (vs : List Value), Stand p l e RMrmLLow (s.setVm vm210) m #[(.ref a1), (.ref t), (.ref rt)] below meth c T210 Lo210 7 44 → T210.heap = h210 → Fr Z.heap.size Lo210 → Keep h205 h210 [b200] → (∃ k0, s.Since vm210 k0 ∧ k0 ≤ h210.size) → Z.Warmed39 (s.setVm vm210).vm → (s.setVm vm210).vm.findClass "java/lang/StringLatin1" = some m.cls → CHr Z EL s.vm h0 vm210 h210 → Arv Z h210 b200 k200 .byte (Int32.ofNat cs.length) vs (.int (0 : Int32)) → Safe Z EL vm210 h210 b200 → (j ≤ cs.length) → (own_Lw cs vs j) → (cs.length - j = mm210) → OEnd p e below (GW s Z EL (QrmLLow Z zc fm rt bl lg lv lk ci a1 t kb cs h0) RMrmLLow.cells RMrmLLow.slots) (T210.setTop (mkF m 117 #[.val (.ref a1), .val (.ref t), .val (.ref rt), .val (.int (Int32.ofNat k)), .val (.int (Int32.ofNat cs.length)), .val (.ref lg), .val (.ref b200), .val (.int (Int32.ofNat j)), sl8] [])) := by
        intro mm210
        induction mm210 using Nat.strongRecOn with
        | ind mm210 ih210 =>
          rintro vm210 T210 h210 Lo210 j sl8 h_sl8 vs X210 e210 N210 Kj210 ⟨kk210, hS210, hk210⟩ hZ210 hown210 HR210 Aw Sj210_0 hj hLw hm210
          have ltj210_0 : b200 < h210.size := (Aw).lt
          show OEnd p e below _ (T210.setTop (mkF m 117 #[.val (.ref a1), .val (.ref t), .val (.ref rt), .val (.int (Int32.ofNat k)), .val (.int (Int32.ofNat cs.length)), .val (.ref lg), .val (.ref b200), .val (.int (Int32.ofNat j)), sl8] []))
          refine OEnd.of (fun tq kq => XS.iload X210.here hx rfl (hb hby d26_117) rfl kq) ?_
          show OEnd p e below _ (T210.setTop (mkF m 119 #[.val (.ref a1), .val (.ref t), .val (.ref rt), .val (.int (Int32.ofNat k)), .val (.int (Int32.ofNat cs.length)), .val (.ref lg), .val (.ref b200), .val (.int (Int32.ofNat j)), sl8] [(.int (Int32.ofNat j))]))
          refine OEnd.of (fun tq kq => XS.iload X210.here hx rfl (hb hby d26_119) rfl kq) ?_
          show OEnd p e below _ (T210.setTop (mkF m 121 #[.val (.ref a1), .val (.ref t), .val (.ref rt), .val (.int (Int32.ofNat k)), .val (.int (Int32.ofNat cs.length)), .val (.ref lg), .val (.ref b200), .val (.int (Int32.ofNat j)), sl8] [(.int (Int32.ofNat cs.length)), (.int (Int32.ofNat j))]))
          by_cases hc211 : (Int32.ofNat j) < (Int32.ofNat cs.length)
          · refine OEnd.of (fun tq kq => XS.icmpNo X210.here hx rfl (hb hby d26_121) rfl (tlt hc211).2.1 kq) ?_
            show OEnd p e below _ (T210.setTop (mkF m 124 #[.val (.ref a1), .val (.ref t), .val (.ref rt), .val (.int (Int32.ofNat k)), .val (.int (Int32.ofNat cs.length)), .val (.ref lg), .val (.ref b200), .val (.int (Int32.ofNat j)), sl8] []))
            have hj1 : j < cs.length := (own_ltN (Nat.le_trans hj hl4) hl4).mp hc211
            refine OEnd.of (fun tq kq => XS.aloadN X210.here hx rfl (hb hby d26_124) rfl rfl kq) ?_
            show OEnd p e below _ (T210.setTop (mkF m 125 #[.val (.ref a1), .val (.ref t), .val (.ref rt), .val (.int (Int32.ofNat k)), .val (.int (Int32.ofNat cs.length)), .val (.ref lg), .val (.ref b200), .val (.int (Int32.ofNat j)), sl8] [(.ref t)]))
            refine OEnd.of (fun tq kq => XS.iload X210.here hx rfl (hb hby d26_125) rfl kq) ?_
            show OEnd p e below _ (T210.setTop (mkF m 127 #[.val (.ref a1), .val (.ref t), .val (.ref rt), .val (.int (Int32.ofNat k)), .val (.int (Int32.ofNat cs.length)), .val (.ref lg), .val (.ref b200), .val (.int (Int32.ofNat j)), sl8] [(.int (Int32.ofNat j)), (.ref t)]))
            have K212 : Keep h0 h195 [] := ((K188.ext E190).ext E195)
            have K213 : Keep h0 h210 [] := ((K206.trans Kq205 (allS (Or.inr (Nat.le_trans K212.1 (Nat.le_of_eq g200.symm))) all0)).trans Kj210 (allS (Or.inr (Nat.le_trans K212.1 (Nat.le_of_eq g200.symm))) all0))
            have Vc214 := (At.keep K213 nin0)
            obtain ⟨cl214, Ar214, q214, S214, N214, H214, G214⟩ := Vc214
            have hin214 : ¬ ((Int32.ofNat j) < 0 ∨ cl214.slots.size ≤ ((Int32.ofNat j)).toNatClampNeg) := own_inB S214 hj1 hl4
            refine OEnd.of (X210.baloadBytes hx (j := (Int32.ofNat j)) (v := (.int ((cs.getD j 0).toInt8.toInt32))) (by rw [e210]; exact Ar214.1) (State.isArrayOf_alike hZ210.alike Ar214.2.1) Ar214.2.2 hin214 (H214.at hin214 (own_getB hj1 hl4)) (g := (mkF m 127 #[.val (.ref a1), .val (.ref t), .val (.ref rt), .val (.int (Int32.ofNat k)), .val (.int (Int32.ofNat cs.length)), .val (.ref lg), .val (.ref b200), .val (.int (Int32.ofNat j)), sl8] [(.int (Int32.ofNat j)), (.ref t)])) rfl rfl (hb hby d26_127)) ?_
            show OEnd p e below _ (T210.setTop (mkF m 128 #[.val (.ref a1), .val (.ref t), .val (.ref rt), .val (.int (Int32.ofNat k)), .val (.int (Int32.ofNat cs.length)), .val (.ref lg), .val (.ref b200), .val (.int (Int32.ofNat j)), sl8] [(.int ((cs.getD j 0).toInt8.toInt32))]))
            refine OEnd.of (fun tq kq => XS.sipush X210.here hx rfl (hb hby d26_128) kq) ?_
            show OEnd p e below _ (T210.setTop (mkF m 131 #[.val (.ref a1), .val (.ref t), .val (.ref rt), .val (.int (Int32.ofNat k)), .val (.int (Int32.ofNat cs.length)), .val (.ref lg), .val (.ref b200), .val (.int (Int32.ofNat j)), sl8] [(.int (255 : Int32)), (.int ((cs.getD j 0).toInt8.toInt32))]))
            refine OEnd.of (fun tq kq => XS.iand X210.here hx rfl (hb hby d26_131) rfl kq) ?_
            show OEnd p e below _ (T210.setTop (mkF m 132 #[.val (.ref a1), .val (.ref t), .val (.ref rt), .val (.int (Int32.ofNat k)), .val (.int (Int32.ofNat cs.length)), .val (.ref lg), .val (.ref b200), .val (.int (Int32.ofNat j)), sl8] [(.int (((cs.getD j 0).toInt8.toInt32) &&& (255 : Int32)))]))
            rw [show (((cs.getD j 0).toInt8.toInt32) &&& (255 : Int32)) = (cs.getD j 0) from own_lo8 (own_rng hcs j)]
            show OEnd p e below _ (T210.setTop (mkF m 132 #[.val (.ref a1), .val (.ref t), .val (.ref rt), .val (.int (Int32.ofNat k)), .val (.int (Int32.ofNat cs.length)), .val (.ref lg), .val (.ref b200), .val (.int (Int32.ofNat j)), sl8] [(.int (cs.getD j 0))]))
            refine OEnd.of (fun tq kq => XS.istore X210.here hx rfl (hb hby d26_132) rfl (l' := #[.val (.ref a1), .val (.ref t), .val (.ref rt), .val (.int (Int32.ofNat k)), .val (.int (Int32.ofNat cs.length)), .val (.ref lg), .val (.ref b200), .val (.int (Int32.ofNat j)), .val (.int (cs.getD j 0))]) (XS.store1 rfl h_sl8 rfl) kq) ?_
            show OEnd p e below _ (T210.setTop (mkF m 134 #[.val (.ref a1), .val (.ref t), .val (.ref rt), .val (.int (Int32.ofNat k)), .val (.int (Int32.ofNat cs.length)), .val (.ref lg), .val (.ref b200), .val (.int (Int32.ofNat j)), .val (.int (cs.getD j 0))] []))
            have K215 : Keep h195 h210 [] := ((((Keep.refl h195 []).ext E200).trans Kq205 (allS (Or.inr (Nat.le_of_eq g200.symm)) all0)).trans Kj210 (allS (Or.inr (Nat.le_of_eq g200.symm)) all0))
            have O216 : Ext Z.heap h210 := own_extKeep O199 K215 all0
            obtain ⟨T217, X217, e217, st217⟩ := getS2 X210 hx hZ210 hown210 (host := "") (Or.inl (hw _ (List.mem_of_getElem? (i := 141) rfl))) Via.refl e210 (Sta.ext O216 S_CI) (g := (mkF m 134 #[.val (.ref a1), .val (.ref t), .val (.ref rt), .val (.int (Int32.ofNat k)), .val (.int (Int32.ofNat cs.length)), .val (.ref lg), .val (.ref b200), .val (.int (Int32.ofNat j)), .val (.int (cs.getD j 0))] [])) rfl (hb hby d26_134)
            refine OEnd.of st217 ?_
            show OEnd p e below _ (T217.setTop (mkF m 137 #[.val (.ref a1), .val (.ref t), .val (.ref rt), .val (.int (Int32.ofNat k)), .val (.int (Int32.ofNat cs.length)), .val (.ref lg), .val (.ref b200), .val (.int (Int32.ofNat j)), .val (.int (cs.getD j 0))] [(.ref ci)]))
            refine OEnd.of (fun tq kq => XS.iload X217.here hx rfl (hb hby d26_137) rfl kq) ?_
            show OEnd p e below _ (T217.setTop (mkF m 139 #[.val (.ref a1), .val (.ref t), .val (.ref rt), .val (.int (Int32.ofNat k)), .val (.int (Int32.ofNat cs.length)), .val (.ref lg), .val (.ref b200), .val (.int (Int32.ofNat j)), .val (.int (cs.getD j 0))] [(.int (cs.getD j 0)), (.ref ci)]))
            obtain ⟨cq218, kq218, q218a, q218b, q218c⟩ := isOf hZ210 e217 (Exa.ext O216 E_ci)
            obtain ⟨_, _, ⟨T218, L218, k218, n218⟩, -, X218, ⟨Lc218, hQ218, l218, y218, z218⟩, st218⟩ := X217.virtualBack hx (y := (⟨"java/lang/CharacterDataLatin1", "toLowerCase", "(I)I"⟩ : MethodName)) (z := (⟨"java/lang/CharacterDataLatin1", "toLowerCase", "(I)I"⟩ : MethodName)) hown210 (mvT hZ210 (hw _ (List.mem_of_getElem? (i := 143) rfl))) (mvT hZ210 (hw _ (List.mem_of_getElem? (i := 144) rfl))) (notFace_of_selects (args := #[]) (mvT hZ210 (hw _ (List.mem_of_getElem? (i := 146) rfl)))) (mvT hZ210 (hw _ (List.mem_of_getElem? (i := 146) rfl))) (mvT hZ210 (hw _ (List.mem_of_getElem? (i := 145) rfl))) (by decide) (backOf (W := 0) (rmCLow l Z a0 hw zc fm rt bl lg lv lk ci S_CS hzc S_SF h_fm S_RT E_rt F_bl E_bl F_lg E_lg F_lv A_lv S_CI E_ci [] ci (cs.getD j 0) h210 O216 ) hZ210 (hw _ (List.mem_of_getElem? (i := 147) rfl)) (hw _ (List.mem_of_getElem? (i := 142) rfl)) (by decide) (by decide)) q218a q218c (g := (mkF m 139 #[.val (.ref a1), .val (.ref t), .val (.ref rt), .val (.int (Int32.ofNat k)), .val (.int (Int32.ofNat cs.length)), .val (.ref lg), .val (.ref b200), .val (.int (Int32.ofNat j)), .val (.int (cs.getD j 0))] [(.int (cs.getD j 0)), (.ref ci)])) rfl (by rw [hml]; rfl) (Steps.refl _) (argsL := [(.int (cs.getD j 0))]) (rest := []) (lenOf pd_28I29I rfl) rfl (by show 2 * 0 + _ ≤ _; exact Nat.le_of_eq rfl) (hb hby d26_139) (fun _ _ => ⟨rfl, e217, (by decide : 7 + 0 ≤ _), (by decide : 44 + 0 ≤ _)⟩)
            dsimp only [Pt.U, Pt.locs, Pt.cells, Pt.slots] at X218 l218 y218 z218 st218 hQ218
            subst l218 y218 z218
            obtain ⟨rfl, Nq218, e218⟩ := hQ218
            have N219 := Fr.app N210 Nq218
            refine OEnd.of (fun tq kq => st218.trans kq) ?_
            show OEnd p e below _ (T218.setTop (mkF m 142 #[.val (.ref a1), .val (.ref t), .val (.ref rt), .val (.int (Int32.ofNat k)), .val (.int (Int32.ofNat cs.length)), .val (.ref lg), .val (.ref b200), .val (.int (Int32.ofNat j)), .val (.int (cs.getD j 0))] [(.int (own_low (cs.getD j 0)))]))
            refine OEnd.of (fun tq kq => XS.istore X218.here hx rfl (hb hby d26_142) rfl (l' := #[.val (.ref a1), .val (.ref t), .val (.ref rt), .val (.int (Int32.ofNat k)), .val (.int (Int32.ofNat cs.length)), .val (.ref lg), .val (.ref b200), .val (.int (Int32.ofNat j)), .val (.int (own_low (cs.getD j 0)))]) rfl kq) ?_
            show OEnd p e below _ (T218.setTop (mkF m 144 #[.val (.ref a1), .val (.ref t), .val (.ref rt), .val (.int (Int32.ofNat k)), .val (.int (Int32.ofNat cs.length)), .val (.ref lg), .val (.ref b200), .val (.int (Int32.ofNat j)), .val (.int (own_low (cs.getD j 0)))] []))
            refine OEnd.of (fun tq kq => XS.iload X218.here hx rfl (hb hby d26_144) rfl kq) ?_
            show OEnd p e below _ (T218.setTop (mkF m 146 #[.val (.ref a1), .val (.ref t), .val (.ref rt), .val (.int (Int32.ofNat k)), .val (.int (Int32.ofNat cs.length)), .val (.ref lg), .val (.ref b200), .val (.int (Int32.ofNat j)), .val (.int (own_low (cs.getD j 0)))] [(.int (own_low (cs.getD j 0)))]))
            obtain ⟨_, _, ⟨T220, L220, k220, n220⟩, -, X220, ⟨Lc220, hQ220, l220, y220, z220⟩, st220⟩ := Jvm.LawKit.callS X218 hx (y := (⟨"java/lang/StringLatin1", "canEncode", "(I)Z"⟩ : MethodName)) hown210 (mvT hZ210 (hw _ (List.mem_of_getElem? (i := 67) rfl))) (mvT hZ210 (hw _ (List.mem_of_getElem? (i := 68) rfl))) (mvT hZ210 (hw _ (List.mem_of_getElem? (i := 65) rfl))) (mvT hZ210 (hw _ (List.mem_of_getElem? (i := 69) rfl))) (by decide) (backOf (W := 0) (rmCanI l Z a0 hw zc fm rt bl lg lv lk ci S_CS hzc S_SF h_fm S_RT E_rt F_bl E_bl F_lg E_lg F_lv A_lv S_CI E_ci [] (own_low (cs.getD j 0)) h210 O216 (own_lowR (own_rng hcs j))) hZ210 (hw _ (List.mem_of_getElem? (i := 69) rfl)) (hw _ (List.mem_of_getElem? (i := 65) rfl)) (by decide) (by decide)) (g := (mkF m 146 #[.val (.ref a1), .val (.ref t), .val (.ref rt), .val (.int (Int32.ofNat k)), .val (.int (Int32.ofNat cs.length)), .val (.ref lg), .val (.ref b200), .val (.int (Int32.ofNat j)), .val (.int (own_low (cs.getD j 0)))] [(.int (own_low (cs.getD j 0)))])) rfl (by rw [hml]; rfl) (argsL := [(.int (own_low (cs.getD j 0)))]) (rest := []) (lenOf pd_28I29Z rfl) rfl (by show 2 * 0 + _ ≤ _; exact Nat.le_of_eq rfl) (hb hby d26_146) (fun _ _ => ⟨rfl, e218, (by decide : 7 + 0 ≤ _), (by decide : 44 + 0 ≤ _)⟩)
            dsimp only [Pt.U, Pt.locs, Pt.cells, Pt.slots] at X220 l220 y220 z220 st220 hQ220
            subst l220 y220 z220
            obtain ⟨rfl, Nq220, e220⟩ := hQ220
            have N221 := Fr.app N219 Nq220
            refine OEnd.of st220 ?_
            show OEnd p e below _ (T220.setTop (mkF m 149 #[.val (.ref a1), .val (.ref t), .val (.ref rt), .val (.int (Int32.ofNat k)), .val (.int (Int32.ofNat cs.length)), .val (.ref lg), .val (.ref b200), .val (.int (Int32.ofNat j)), .val (.int (own_low (cs.getD j 0)))] [(.int (1 : Int32))]))
            refine OEnd.of (fun tq kq => XS.ifYes X220.here hx rfl (pc0 := 149) (pc' := 161) rfl (hb hby d26_149) rfl ((if0 _ _).trans (feq (by decide : ¬ ((1 : Int32) = (0 : Int32)))).2) (by decide) (by decide) kq) ?_
            show OEnd p e below _ (T220.setTop (mkF m 161 #[.val (.ref a1), .val (.ref t), .val (.ref rt), .val (.int (Int32.ofNat k)), .val (.int (Int32.ofNat cs.length)), .val (.ref lg), .val (.ref b200), .val (.int (Int32.ofNat j)), .val (.int (own_low (cs.getD j 0)))] []))
            refine OEnd.of (fun tq kq => XS.aload X220.here hx rfl (hb hby d26_161) rfl rfl kq) ?_
            show OEnd p e below _ (T220.setTop (mkF m 163 #[.val (.ref a1), .val (.ref t), .val (.ref rt), .val (.int (Int32.ofNat k)), .val (.int (Int32.ofNat cs.length)), .val (.ref lg), .val (.ref b200), .val (.int (Int32.ofNat j)), .val (.int (own_low (cs.getD j 0)))] [(.ref b200)]))
            refine OEnd.of (fun tq kq => XS.iload X220.here hx rfl (hb hby d26_163) rfl kq) ?_
            show OEnd p e below _ (T220.setTop (mkF m 165 #[.val (.ref a1), .val (.ref t), .val (.ref rt), .val (.int (Int32.ofNat k)), .val (.int (Int32.ofNat cs.length)), .val (.ref lg), .val (.ref b200), .val (.int (Int32.ofNat j)), .val (.int (own_low (cs.getD j 0)))] [(.int (Int32.ofNat j)), (.ref b200)]))
            refine OEnd.of (fun tq kq => XS.iload X220.here hx rfl (hb hby d26_165) rfl kq) ?_
            show OEnd p e below _ (T220.setTop (mkF m 167 #[.val (.ref a1), .val (.ref t), .val (.ref rt), .val (.int (Int32.ofNat k)), .val (.int (Int32.ofNat cs.length)), .val (.ref lg), .val (.ref b200), .val (.int (Int32.ofNat j)), .val (.int (own_low (cs.getD j 0)))] [(.int (own_low (cs.getD j 0))), (.int (Int32.ofNat j)), (.ref b200)]))
            refine OEnd.of (fun tq kq => XS.i2b X220.here hx rfl (hb hby d26_167) rfl kq) ?_
            show OEnd p e below _ (T220.setTop (mkF m 168 #[.val (.ref a1), .val (.ref t), .val (.ref rt), .val (.int (Int32.ofNat k)), .val (.int (Int32.ofNat cs.length)), .val (.ref lg), .val (.ref b200), .val (.int (Int32.ofNat j)), .val (.int (own_low (cs.getD j 0)))] [(.int ((own_low (cs.getD j 0)).toInt8.toInt32)), (.int (Int32.ofNat j)), (.ref b200)]))
            have hvl : vs.length = cs.length := hLw.1
            have Vc222 := Aw
            obtain ⟨cl222, Ar222, q222, S222, N222, H222, G222⟩ := Vc222
            have hin222 : ¬ ((Int32.ofNat j) < 0 ∨ cl222.slots.size ≤ ((Int32.ofNat j)).toNatClampNeg) := own_inC S222 ⟨hj1, hl4⟩
            obtain ⟨T222, h222, X222, e222, W222, st222⟩ := stB X220 hx hZ210 e220 Ar222 (j := (Int32.ofNat j)) hin222 (g := (mkF m 168 #[.val (.ref a1), .val (.ref t), .val (.ref rt), .val (.int (Int32.ofNat k)), .val (.int (Int32.ofNat cs.length)), .val (.ref lg), .val (.ref b200), .val (.int (Int32.ofNat j)), .val (.int (own_low (cs.getD j 0)))] [(.int ((own_low (cs.getD j 0)).toInt8.toInt32)), (.int (Int32.ofNat j)), (.ref b200)])) rfl rfl (hb hby d26_168)
            refine OEnd.of st222 ?_
            rw [own_nar8] at W222
            have Aw2 : Arv Z h222 b200 k200 .byte (Int32.ofNat cs.length) (vs.set j (.int ((own_low (cs.getD j 0)).toInt8.toInt32))) (.int (0 : Int32)) := Arv.set Ar222 q222 S222 N222 H222 G222 (fits_nar_byte _) W222 j (own_ofN (c := 4000) (by omega) (Nat.le_refl _)) (by omega)
            have N223 := Fr.snoc X222 N221 f200
            have CR224 : CHr Z EL vm210 h210 vm210 h222 := CHr.wr W222 Sj210_0 HR210.1
            have HR225 : CHr Z EL s.vm h0 vm210 h222 := HR210.trans CR224
            have Sf226 : Safe Z EL vm210 h222 b200 := CR224.safe ltj210_0 Sj210_0
            show OEnd p e below _ (T222.setTop (mkF m 169 #[.val (.ref a1), .val (.ref t), .val (.ref rt), .val (.int (Int32.ofNat k)), .val (.int (Int32.ofNat cs.length)), .val (.ref lg), .val (.ref b200), .val (.int (Int32.ofNat j)), .val (.int (own_low (cs.getD j 0)))] []))
            refine OEnd.of (fun tq kq => XS.iinc X222.here hx rfl (hb hby d26_169) rfl (l' := #[.val (.ref a1), .val (.ref t), .val (.ref rt), .val (.int (Int32.ofNat k)), .val (.int (Int32.ofNat cs.length)), .val (.ref lg), .val (.ref b200), .val (.int ((Int32.ofNat j) + (1 : Int32))), .val (.int (own_low (cs.getD j 0)))]) rfl kq) ?_
            show OEnd p e below _ (T222.setTop (mkF m 172 #[.val (.ref a1), .val (.ref t), .val (.ref rt), .val (.int (Int32.ofNat k)), .val (.int (Int32.ofNat cs.length)), .val (.ref lg), .val (.ref b200), .val (.int ((Int32.ofNat j) + (1 : Int32))), .val (.int (own_low (cs.getD j 0)))] []))
            refine OEnd.of (fun tq kq => XS.goto X222.here hx rfl (pc0 := 172) (pc' := 117) rfl (hb hby d26_172) (by decide) (by decide) kq) ?_
            show OEnd p e below _ (T222.setTop (mkF m 117 #[.val (.ref a1), .val (.ref t), .val (.ref rt), .val (.int (Int32.ofNat k)), .val (.int (Int32.ofNat cs.length)), .val (.ref lg), .val (.ref b200), .val (.int ((Int32.ofNat j) + (1 : Int32))), .val (.int (own_low (cs.getD j 0)))] []))
            rw [show ((Int32.ofNat j) + (1 : Int32)) = (Int32.ofNat (j + 1)) from own_inc j]
            show OEnd p e below _ (T222.setTop (mkF m 117 #[.val (.ref a1), .val (.ref t), .val (.ref rt), .val (.int (Int32.ofNat k)), .val (.int (Int32.ofNat cs.length)), .val (.ref lg), .val (.ref b200), .val (.int (Int32.ofNat (j + 1))), .val (.int (own_low (cs.getD j 0)))] []))
            have K227 : Keep h205 h222 [b200] := (((Keep.refl h205 [b200]).trans Kj210 (allS (Or.inl (List.mem_of_getElem? (i := 0) rfl)) all0)).wr W222 (Or.inl (List.mem_of_getElem? (i := 0) rfl)))
            have K228 : Keep h210 h222 [b200] := ((Keep.refl h210 [b200]).wr W222 (Or.inl (List.mem_of_getElem? (i := 0) rfl)))
            exact ih210 _ (by omega) _ T222 h222 _ (j + 1) (.val (.int (own_low (cs.getD j 0)))) (One.val rfl) (vs.set j (.int (own_low (cs.getD j 0)).toInt8.toInt32)) X222 e222 N223 K227 ⟨_, hS210, (Nat.le_trans hk210 K228.1)⟩ hZ210 hown210 HR225 Aw2 Sf226 hj1 (hLw.step hj1) rfl
          · refine OEnd.of (fun tq kq => XS.icmpYes X210.here hx rfl (pc0 := 121) (pc' := 175) rfl (hb hby d26_121) rfl (flt hc211).2.1 (by decide) (by decide) kq) ?_
            show OEnd p e below _ (T210.setTop (mkF m 175 #[.val (.ref a1), .val (.ref t), .val (.ref rt), .val (.int (Int32.ofNat k)), .val (.int (Int32.ofNat cs.length)), .val (.ref lg), .val (.ref b200), .val (.int (Int32.ofNat j)), sl8] []))
            have hj2 : j = cs.length := Nat.le_antisymm hj (Nat.not_lt.mp fun q => hc211 ((own_ltN (Nat.le_trans hj hl4) hl4).mpr q))
            have K230 : Keep h195 h210 [] := ((((Keep.refl h195 []).ext E200).trans Kq205 (allS (Or.inr (Nat.le_of_eq g200.symm)) all0)).trans Kj210 (allS (Or.inr (Nat.le_of_eq g200.symm)) all0))
            have O231 : Ext Z.heap h210 := own_extKeep O199 K230 all0
            obtain ⟨T229, h229, X229, e229, E229, A229, D229, -, st229⟩ := newO X210 hx hZ210 hown210 (hw _ (List.mem_of_getElem? (i := 121) rfl)) (hw _ (List.mem_of_getElem? (i := 6) rfl)) (hw _ (List.mem_of_getElem? (i := 7) rfl)) e210 (g := (mkF m 175 #[.val (.ref a1), .val (.ref t), .val (.ref rt), .val (.int (Int32.ofNat k)), .val (.int (Int32.ofNat cs.length)), .val (.ref lg), .val (.ref b200), .val (.int (Int32.ofNat j)), sl8] [])) rfl (hb hby d26_175) (by decide) (by decide)
            obtain ⟨b229, g229⟩ : ∃ z, z = h210.size := ⟨_, rfl⟩
            rw [← g229] at A229 D229 st229
            refine OEnd.of st229 ?_
            have f229 : Z.heap.size ≤ b229 := Nat.le_trans O231.1 (Nat.le_of_eq g229.symm)
            have F232 : Fld Z h229 b229 "java/lang/String" "coder" "B" (.int (0 : Int32)) := D229 (Or.inr (hw _ (List.mem_of_getElem? (i := 31) rfl))) (ty := .byte) (by decide)
            have F233 : Fld Z h229 b229 "java/lang/String" "value" "[B" .null := D229 (Or.inr (hw _ (List.mem_of_getElem? (i := 33) rfl))) (ty := (.array .byte)) (by decide)
            have CR234 : CHr Z EL vm210 h210 vm210 h229 := CHr.ext E229 HR210.1
            have HR235 : CHr Z EL s.vm h0 vm210 h229 := HR210.trans CR234
            have Sf236 : Safe Z EL vm210 h229 b200 := CR234.safe ltj210_0 Sj210_0
            show OEnd p e below _ (T229.setTop (mkF m 178 #[.val (.ref a1), .val (.ref t), .val (.ref rt), .val (.int (Int32.ofNat k)), .val (.int (Int32.ofNat cs.length)), .val (.ref lg), .val (.ref b200), .val (.int (Int32.ofNat j)), sl8] [(.ref b229)]))
            refine OEnd.of (fun tq kq => XS.dup X229.here hx rfl (hb hby d26_178) rfl rfl kq) ?_
            show OEnd p e below _ (T229.setTop (mkF m 179 #[.val (.ref a1), .val (.ref t), .val (.ref rt), .val (.int (Int32.ofNat k)), .val (.int (Int32.ofNat cs.length)), .val (.ref lg), .val (.ref b200), .val (.int (Int32.ofNat j)), sl8] [(.ref b229), (.ref b229)]))
            refine OEnd.of (fun tq kq => XS.aload X229.here hx rfl (hb hby d26_179) rfl rfl kq) ?_
            show OEnd p e below _ (T229.setTop (mkF m 181 #[.val (.ref a1), .val (.ref t), .val (.ref rt), .val (.int (Int32.ofNat k)), .val (.int (Int32.ofNat cs.length)), .val (.ref lg), .val (.ref b200), .val (.int (Int32.ofNat j)), sl8] [(.ref b200), (.ref b229), (.ref b229)]))
            refine OEnd.of (fun tq kq => XS.iconst X229.here hx rfl (hb hby d26_181) kq) ?_
            show OEnd p e below _ (T229.setTop (mkF m 182 #[.val (.ref a1), .val (.ref t), .val (.ref rt), .val (.int (Int32.ofNat k)), .val (.int (Int32.ofNat cs.length)), .val (.ref lg), .val (.ref b200), .val (.int (Int32.ofNat j)), sl8] [(.int (0 : Int32)), (.ref b200), (.ref b229), (.ref b229)]))
            have K238 : Keep h210 h229 [] := ((Keep.refl h210 []).ext E229)
            have O239 : Ext Z.heap h229 := own_extKeep O231 K238 all0
            obtain ⟨_, _, ⟨T237, L237, k237, n237⟩, -, X237, ⟨Lc237, hQ237, l237, y237, z237⟩, st237⟩ := X229.specialBack hx (y := (⟨"java/lang/String", "<init>", "([BB)V"⟩ : MethodName)) rfl hown210 (mvT hZ210 (hw _ (List.mem_of_getElem? (i := 137) rfl))) (mvT hZ210 (hw _ (List.mem_of_getElem? (i := 138) rfl))) (mvT hZ210 (hw _ (List.mem_of_getElem? (i := 139) rfl))) (by decide) (backOf (W := 1) (rmIBB l Z a0 hw zc fm rt bl lg lv lk ci S_CS hzc S_SF h_fm S_RT E_rt F_bl E_bl F_lg E_lg F_lv A_lv S_CI E_ci [] b229 b200 h229 O239 A229 F233 F232 f229) hZ210 (hw _ (List.mem_of_getElem? (i := 139) rfl)) (hw _ (List.mem_of_getElem? (i := 7) rfl)) (by decide) (by decide)) (g := (mkF m 182 #[.val (.ref a1), .val (.ref t), .val (.ref rt), .val (.int (Int32.ofNat k)), .val (.int (Int32.ofNat cs.length)), .val (.ref lg), .val (.ref b200), .val (.int (Int32.ofNat j)), sl8] [(.int (0 : Int32)), (.ref b200), (.ref b229), (.ref b229)])) rfl (by rw [hml]; rfl) (Steps.refl _) (a := b229) (argsL := [(.ref b200), (.int (0 : Int32))]) (rest := [(.ref b229)]) (lenOf pd_285bBB29V rfl) rfl (by show 2 * 0 + _ ≤ _; exact Nat.le_of_eq rfl) (hb hby d26_182) (fun _ _ => ⟨rfl, e229, (by decide : 8 + 0 ≤ _), (by decide : 48 + 0 ≤ _)⟩)
            dsimp only [Pt.U, Pt.locs, Pt.cells, Pt.slots] at X237 l237 y237 z237 st237 hQ237
            subst l237 y237 z237
            obtain ⟨h237, e237⟩ : ∃ z, T237.heap = z := ⟨_, rfl⟩
            rw [e237] at hQ237
            obtain ⟨rfl, Nq237, Kq237, E_240, V_241, C_242⟩ := hQ237
            have N243 := Fr.app N210 Nq237
            have Sf244 : Safe Z EL vm210 h229 b229 := own_safeNull hZ210.alike A229 F233
            have lt245 : b229 < h229.size := (A229).lt
            have CR246 : CHr Z EL vm210 h229 vm210 h237 := CHr.keep Kq237 (allS Sf244 all0) HR235.1
            have HR247 : CHr Z EL s.vm h0 vm210 h237 := HR235.trans CR246
            have Sf248 : Safe Z EL vm210 h237 b200 := CR246.safe (Nat.lt_of_lt_of_le ltj210_0 K238.1) Sf236
            have Sf249 : Safe Z EL vm210 h237 b229 := CR246.safe lt245 Sf244
            refine OEnd.of (fun tq kq => st237.trans kq) ?_
            show OEnd p e below _ (T237.setTop (mkF m 185 #[.val (.ref a1), .val (.ref t), .val (.ref rt), .val (.int (Int32.ofNat k)), .val (.int (Int32.ofNat cs.length)), .val (.ref lg), .val (.ref b200), .val (.int (Int32.ofNat j)), sl8] [(.ref b229)]))
            have K250 : Keep h210 h237 [] := (K238.trans Kq237 (allS (Or.inr (Nat.le_of_eq g229.symm)) all0))
            have Sy : IsStr Z h237 b229 (cs.map own_low) := ⟨E_240, C_242, ⟨b200, k200, V_241, by have q := (Aw.keep K250 nin0); rw [show vs = BB (cs.map own_low) from own_Lw.done (hj2 ▸ hLw)] at q; rw [List.length_map]; exact q⟩, own_rngMap hcs, by rw [List.length_map]; exact hl4⟩
            have K251 : Keep h0 h195 [] := ((K188.ext E190).ext E195)
            have K252 : Keep h0 h210 [] := ((K206.trans Kq205 (allS (Or.inr (Nat.le_trans K251.1 (Nat.le_of_eq g200.symm))) all0)).trans Kj210 (allS (Or.inr (Nat.le_trans K251.1 (Nat.le_of_eq g200.symm))) all0))
            have K253 : Keep h0 h237 [] := ((((K206.trans Kq205 (allS (Or.inr (Nat.le_trans K251.1 (Nat.le_of_eq g200.symm))) all0)).trans Kj210 (allS (Or.inr (Nat.le_trans K251.1 (Nat.le_of_eq g200.symm))) all0)).ext E229).trans Kq237 (allS (Or.inr (Nat.le_trans K252.1 (Nat.le_of_eq g229.symm))) all0))
            exact OEnd.retAW X237 hx hlk e237 hh hS210 (Nat.le_trans hk210 K250.1) hEL hZ210 HR247 hret rfl rfl (hb hby d26_185) ⟨b229, rfl, N243, K253, Sy⟩ (by decide) (by decide)
      have K254 : Keep h195 h205 [] := (((Keep.refl h195 []).ext E200).trans Kq205 (allS (Or.inr (Nat.le_of_eq g200.symm)) all0))
      exact J210 _ _ T205 h205 _ k .unset One.u vs0 X205 e205 N205 (own_keepMono (Keep.refl h205 []) (by simp)) ⟨_, S195, (Nat.le_trans hk195 K254.1)⟩ hZ195 hown195 HR208 Vn205 Sf209 hk hLw0 rfl
  have J255 : ∀ (mm255 : Nat) (vm255 : Vm) (T255 : State) (Lo255 : List Loc) (k : Nat) (sl5 : Slot) (h_sl5 : One sl5), Stand p l e RMrmLLow (s.setVm vm255) m #[(.ref a1), (.ref t), (.ref rt)] below meth c T255 Lo255 0 0 → T255.heap = h0 → Fr Z.heap.size Lo255 → (∃ k0, s.Since vm255 k0 ∧ k0 ≤ h0.size) → Z.Warmed39 (s.setVm vm255).vm → (s.setVm vm255).vm.findClass "java/lang/StringLatin1" = some m.cls → CHr Z EL s.vm h0 vm255 h0 → (k ≤ cs.length) → (∀ j, j < k → cs.getD j 0 = own_low (cs.getD j 0)) → (cs.length - k = mm255) → OEnd p e below (GW s Z EL (QrmLLow Z zc fm rt bl lg lv lk ci a1 t kb cs h0) RMrmLLow.cells RMrmLLow.slots) (T255.setTop (mkF m 18 #[.val (.ref a1), .val (.ref t), .val (.ref rt), .val (.int (Int32.ofNat k)), .val (.int (Int32.ofNat cs.length)), sl5, .unset, .unset, .unset] [])) := by
    intro mm255
    induction mm255 using Nat.strongRecOn with
    | ind mm255 ih255 =>
      rintro vm255 T255 Lo255 k sl5 h_sl5 X255 e255 N255 ⟨kk255, hS255, hk255⟩ hZ255 hown255 HR255 hk hn hm255
      show OEnd p e below _ (T255.setTop (mkF m 18 #[.val (.ref a1), .val (.ref t), .val (.ref rt), .val (.int (Int32.ofNat k)), .val (.int (Int32.ofNat cs.length)), sl5, .unset, .unset, .unset] []))
      refine OEnd.of (fun tq kq => XS.iloadN X255.here hx rfl (hb hby d26_18) rfl kq) ?_
      show OEnd p e below _ (T255.setTop (mkF m 19 #[.val (.ref a1), .val (.ref t), .val (.ref rt), .val (.int (Int32.ofNat k)), .val (.int (Int32.ofNat cs.length)), sl5, .unset, .unset, .unset] [(.int (Int32.ofNat k))]))
      refine OEnd.of (fun tq kq => XS.iload X255.here hx rfl (hb hby d26_19) rfl kq) ?_
      show OEnd p e below _ (T255.setTop (mkF m 21 #[.val (.ref a1), .val (.ref t), .val (.ref rt), .val (.int (Int32.ofNat k)), .val (.int (Int32.ofNat cs.length)), sl5, .unset, .unset, .unset] [(.int (Int32.ofNat cs.length)), (.int (Int32.ofNat k))]))
      by_cases hc256 : (Int32.ofNat k) < (Int32.ofNat cs.length)
      · refine OEnd.of (fun tq kq => XS.icmpNo X255.here hx rfl (hb hby d26_21) rfl (tlt hc256).2.1 kq) ?_
        show OEnd p e below _ (T255.setTop (mkF m 24 #[.val (.ref a1), .val (.ref t), .val (.ref rt), .val (.int (Int32.ofNat k)), .val (.int (Int32.ofNat cs.length)), sl5, .unset, .unset, .unset] []))
        have hk1 : k < cs.length := (own_ltN (Nat.le_trans hk hl4) hl4).mp hc256
        refine OEnd.of (fun tq kq => XS.aloadN X255.here hx rfl (hb hby d26_24) rfl rfl kq) ?_
        show OEnd p e below _ (T255.setTop (mkF m 25 #[.val (.ref a1), .val (.ref t), .val (.ref rt), .val (.int (Int32.ofNat k)), .val (.int (Int32.ofNat cs.length)), sl5, .unset, .unset, .unset] [(.ref t)]))
        refine OEnd.of (fun tq kq => XS.iloadN X255.here hx rfl (hb hby d26_25) rfl kq) ?_
        show OEnd p e below _ (T255.setTop (mkF m 26 #[.val (.ref a1), .val (.ref t), .val (.ref rt), .val (.int (Int32.ofNat k)), .val (.int (Int32.ofNat cs.length)), sl5, .unset, .unset, .unset] [(.int (Int32.ofNat k)), (.ref t)]))
        have Vc257 := At
        obtain ⟨cl257, Ar257, q257, S257, N257, H257, G257⟩ := Vc257
        have hin257 : ¬ ((Int32.ofNat k) < 0 ∨ cl257.slots.size ≤ ((Int32.ofNat k)).toNatClampNeg) := own_inB S257 hk1 hl4
        refine OEnd.of (X255.baloadBytes hx (j := (Int32.ofNat k)) (v := (.int ((cs.getD k 0).toInt8.toInt32))) (by rw [e255]; exact Ar257.1) (State.isArrayOf_alike hZ255.alike Ar257.2.1) Ar257.2.2 hin257 (H257.at hin257 (own_getB hk1 hl4)) (g := (mkF m 26 #[.val (.ref a1), .val (.ref t), .val (.ref rt), .val (.int (Int32.ofNat k)), .val (.int (Int32.ofNat cs.length)), sl5, .unset, .unset, .unset] [(.int (Int32.ofNat k)), (.ref t)])) rfl rfl (hb hby d26_26)) ?_
        show OEnd p e below _ (T255.setTop (mkF m 27 #[.val (.ref a1), .val (.ref t), .val (.ref rt), .val (.int (Int32.ofNat k)), .val (.int (Int32.ofNat cs.length)), sl5, .unset, .unset, .unset] [(.int ((cs.getD k 0).toInt8.toInt32))]))
        refine OEnd.of (fun tq kq => XS.sipush X255.here hx rfl (hb hby d26_27) kq) ?_
        show OEnd p e below _ (T255.setTop (mkF m 30 #[.val (.ref a1), .val (.ref t), .val (.ref rt), .val (.int (Int32.ofNat k)), .val (.int (Int32.ofNat cs.length)), sl5, .unset, .unset, .unset] [(.int (255 : Int32)), (.int ((cs.getD k 0).toInt8.toInt32))]))
        refine OEnd.of (fun tq kq => XS.iand X255.here hx rfl (hb hby d26_30) rfl kq) ?_
        show OEnd p e below _ (T255.setTop (mkF m 31 #[.val (.ref a1), .val (.ref t), .val (.ref rt), .val (.int (Int32.ofNat k)), .val (.int (Int32.ofNat cs.length)), sl5, .unset, .unset, .unset] [(.int (((cs.getD k 0).toInt8.toInt32) &&& (255 : Int32)))]))
        rw [show (((cs.getD k 0).toInt8.toInt32) &&& (255 : Int32)) = (cs.getD k 0) from own_lo8 (own_rng hcs k)]
        show OEnd p e below _ (T255.setTop (mkF m 31 #[.val (.ref a1), .val (.ref t), .val (.ref rt), .val (.int (Int32.ofNat k)), .val (.int (Int32.ofNat cs.length)), sl5, .unset, .unset, .unset] [(.int (cs.getD k 0))]))
        refine OEnd.of (fun tq kq => XS.istore X255.here hx rfl (hb hby d26_31) rfl (l' := #[.val (.ref a1), .val (.ref t), .val (.ref rt), .val (.int (Int32.ofNat k)), .val (.int (Int32.ofNat cs.length)), .val (.int (cs.getD k 0)), .unset, .unset, .unset]) (XS.store1 rfl h_sl5 rfl) kq) ?_
        show OEnd p e below _ (T255.setTop (mkF m 33 #[.val (.ref a1), .val (.ref t), .val (.ref rt), .val (.int (Int32.ofNat k)), .val (.int (Int32.ofNat cs.length)), .val (.int (cs.getD k 0)), .unset, .unset, .unset] []))
        refine OEnd.of (fun tq kq => XS.iload X255.here hx rfl (hb hby d26_33) rfl kq) ?_
        show OEnd p e below _ (T255.setTop (mkF m 35 #[.val (.ref a1), .val (.ref t), .val (.ref rt), .val (.int (Int32.ofNat k)), .val (.int (Int32.ofNat cs.length)), .val (.int (cs.getD k 0)), .unset, .unset, .unset] [(.int (cs.getD k 0))]))
        obtain ⟨T258, X258, e258, st258⟩ := getS2 X255 hx hZ255 hown255 (host := "") (Or.inl (hw _ (List.mem_of_getElem? (i := 141) rfl))) Via.refl e255 (Sta.ext O0 S_CI) (g := (mkF m 35 #[.val (.ref a1), .val (.ref t), .val (.ref rt), .val (.int (Int32.ofNat k)), .val (.int (Int32.ofNat cs.length)), .val (.int (cs.getD k 0)), .unset, .unset, .unset] [(.int (cs.getD k 0))])) rfl (hb hby d26_35)
        refine OEnd.of st258 ?_
        show OEnd p e below _ (T258.setTop (mkF m 38 #[.val (.ref a1), .val (.ref t), .val (.ref rt), .val (.int (Int32.ofNat k)), .val (.int (Int32.ofNat cs.length)), .val (.int (cs.getD k 0)), .unset, .unset, .unset] [(.ref ci), (.int (cs.getD k 0))]))
        refine OEnd.of (fun tq kq => XS.iload X258.here hx rfl (hb hby d26_38) rfl kq) ?_
        show OEnd p e below _ (T258.setTop (mkF m 40 #[.val (.ref a1), .val (.ref t), .val (.ref rt), .val (.int (Int32.ofNat k)), .val (.int (Int32.ofNat cs.length)), .val (.int (cs.getD k 0)), .unset, .unset, .unset] [(.int (cs.getD k 0)), (.ref ci), (.int (cs.getD k 0))]))
        obtain ⟨cq259, kq259, q259a, q259b, q259c⟩ := isOf hZ255 e258 (Exa.ext O0 E_ci)
        obtain ⟨_, _, ⟨T259, L259, k259, n259⟩, -, X259, ⟨Lc259, hQ259, l259, y259, z259⟩, st259⟩ := X258.virtualBack hx (y := (⟨"java/lang/CharacterDataLatin1", "toLowerCase", "(I)I"⟩ : MethodName)) (z := (⟨"java/lang/CharacterDataLatin1", "toLowerCase", "(I)I"⟩ : MethodName)) hown255 (mvT hZ255 (hw _ (List.mem_of_getElem? (i := 143) rfl))) (mvT hZ255 (hw _ (List.mem_of_getElem? (i := 144) rfl))) (notFace_of_selects (args := #[]) (mvT hZ255 (hw _ (List.mem_of_getElem? (i := 146) rfl)))) (mvT hZ255 (hw _ (List.mem_of_getElem? (i := 146) rfl))) (mvT hZ255 (hw _ (List.mem_of_getElem? (i := 145) rfl))) (by decide) (backOf (W := 1) (rmCLow l Z a0 hw zc fm rt bl lg lv lk ci S_CS hzc S_SF h_fm S_RT E_rt F_bl E_bl F_lg E_lg F_lv A_lv S_CI E_ci [] ci (cs.getD k 0) h0 O0 ) hZ255 (hw _ (List.mem_of_getElem? (i := 147) rfl)) (hw _ (List.mem_of_getElem? (i := 142) rfl)) (by decide) (by decide)) q259a q259c (g := (mkF m 40 #[.val (.ref a1), .val (.ref t), .val (.ref rt), .val (.int (Int32.ofNat k)), .val (.int (Int32.ofNat cs.length)), .val (.int (cs.getD k 0)), .unset, .unset, .unset] [(.int (cs.getD k 0)), (.ref ci), (.int (cs.getD k 0))])) rfl (by rw [hml]; rfl) (Steps.refl _) (argsL := [(.int (cs.getD k 0))]) (rest := [(.int (cs.getD k 0))]) (lenOf pd_28I29I rfl) rfl (by show 2 * 0 + _ ≤ _; exact Nat.le_of_eq rfl) (hb hby d26_40) (fun _ _ => ⟨rfl, e258, (by decide : 0 + 0 ≤ _), (by decide : 0 + 0 ≤ _)⟩)
        dsimp only [Pt.U, Pt.locs, Pt.cells, Pt.slots] at X259 l259 y259 z259 st259 hQ259
        subst l259 y259 z259
        obtain ⟨rfl, Nq259, e259⟩ := hQ259
        have N260 := Fr.app N255 Nq259
        refine OEnd.of (fun tq kq => st259.trans kq) ?_
        show OEnd p e below _ (T259.setTop (mkF m 43 #[.val (.ref a1), .val (.ref t), .val (.ref rt), .val (.int (Int32.ofNat k)), .val (.int (Int32.ofNat cs.length)), .val (.int (cs.getD k 0)), .unset, .unset, .unset] [(.int (own_low (cs.getD k 0))), (.int (cs.getD k 0))]))
        by_cases hc261 : (cs.getD k 0) = (own_low (cs.getD k 0))
        · refine OEnd.of (fun tq kq => XS.icmpYes X259.here hx rfl (pc0 := 43) (pc' := 49) rfl (hb hby d26_43) rfl (teq hc261).1 (by decide) (by decide) kq) ?_
          show OEnd p e below _ (T259.setTop (mkF m 49 #[.val (.ref a1), .val (.ref t), .val (.ref rt), .val (.int (Int32.ofNat k)), .val (.int (Int32.ofNat cs.length)), .val (.int (cs.getD k 0)), .unset, .unset, .unset] []))
          refine OEnd.of (fun tq kq => XS.iinc X259.here hx rfl (hb hby d26_49) rfl (l' := #[.val (.ref a1), .val (.ref t), .val (.ref rt), .val (.int ((Int32.ofNat k) + (1 : Int32))), .val (.int (Int32.ofNat cs.length)), .val (.int (cs.getD k 0)), .unset, .unset, .unset]) rfl kq) ?_
          show OEnd p e below _ (T259.setTop (mkF m 52 #[.val (.ref a1), .val (.ref t), .val (.ref rt), .val (.int ((Int32.ofNat k) + (1 : Int32))), .val (.int (Int32.ofNat cs.length)), .val (.int (cs.getD k 0)), .unset, .unset, .unset] []))
          refine OEnd.of (fun tq kq => XS.goto X259.here hx rfl (pc0 := 52) (pc' := 18) rfl (hb hby d26_52) (by decide) (by decide) kq) ?_
          show OEnd p e below _ (T259.setTop (mkF m 18 #[.val (.ref a1), .val (.ref t), .val (.ref rt), .val (.int ((Int32.ofNat k) + (1 : Int32))), .val (.int (Int32.ofNat cs.length)), .val (.int (cs.getD k 0)), .unset, .unset, .unset] []))
          rw [show ((Int32.ofNat k) + (1 : Int32)) = (Int32.ofNat (k + 1)) from own_inc k]
          show OEnd p e below _ (T259.setTop (mkF m 18 #[.val (.ref a1), .val (.ref t), .val (.ref rt), .val (.int (Int32.ofNat (k + 1))), .val (.int (Int32.ofNat cs.length)), .val (.int (cs.getD k 0)), .unset, .unset, .unset] []))
          exact ih255 _ (by omega) _ T259 _ (k + 1) (.val (.int (cs.getD k 0))) (One.val rfl) X259 e259 N260 ⟨_, hS255, hk255⟩ hZ255 hown255 HR255 hk1 (fun j hj => (Nat.lt_succ_iff_lt_or_eq.mp hj).elim (hn j) (fun q => q ▸ hc261)) rfl
        · refine OEnd.of (fun tq kq => XS.icmpNo X259.here hx rfl (hb hby d26_43) rfl (feq hc261).1 kq) ?_
          show OEnd p e below _ (T259.setTop (mkF m 46 #[.val (.ref a1), .val (.ref t), .val (.ref rt), .val (.int (Int32.ofNat k)), .val (.int (Int32.ofNat cs.length)), .val (.int (cs.getD k 0)), .unset, .unset, .unset] []))
          refine OEnd.of (fun tq kq => XS.goto X259.here hx rfl (pc0 := 46) (pc' := 55) rfl (hb hby d26_46) (by decide) (by decide) kq) ?_
          show OEnd p e below _ (T259.setTop (mkF m 55 #[.val (.ref a1), .val (.ref t), .val (.ref rt), .val (.int (Int32.ofNat k)), .val (.int (Int32.ofNat cs.length)), .val (.int (cs.getD k 0)), .unset, .unset, .unset] []))
          exact J181 _ T259 _ k (.val (.int (cs.getD k 0))) (One.val rfl) X259 e259 N260 ⟨_, hS255, hk255⟩ hZ255 hown255 HR255 hk hn
      · refine OEnd.of (fun tq kq => XS.icmpYes X255.here hx rfl (pc0 := 21) (pc' := 55) rfl (hb hby d26_21) rfl (flt hc256).2.1 (by decide) (by decide) kq) ?_
        show OEnd p e below _ (T255.setTop (mkF m 55 #[.val (.ref a1), .val (.ref t), .val (.ref rt), .val (.int (Int32.ofNat k)), .val (.int (Int32.ofNat cs.length)), sl5, .unset, .unset, .unset] []))
        exact J181 _ T255 _ k sl5 h_sl5 X255 e255 N255 ⟨_, hS255, hk255⟩ hZ255 hown255 HR255 hk hn
  exact J255 _ _ s₁ _ 0 .unset One.u X0 e0 N0 ⟨_, hS0, hk0⟩ hZ hown HR0 (Nat.zero_le _) (fun j hj => absurd hj (Nat.not_lt_zero j)) rfl
theorem pd_28Ljava2flang2fString3b5bBLjava2futil2fLocale3b29Ljava2flang2fString3b : parseMethodDescriptor "(Ljava/lang/String;[BLjava/util/Locale;)Ljava/lang/String;" = some ⟨[(.object "java/lang/String"), (.array .byte), (.object "java/util/Locale")], some (.object "java/lang/String")⟩ := by decide +kernel
theorem d25_0 : decode jdk_42_method_109_code 0 = .ok (.aload_n 0, 1) := by decide +kernel
theorem d25_1 : decode jdk_42_method_109_code 1 = .ok (.invokevirtual 492, 3) := by decide +kernel
theorem d25_4 : decode jdk_42_method_109_code 4 = .ok (.ifCond .eq 15, 3) := by decide +kernel
theorem d25_7 : decode jdk_42_method_109_code 7 = .ok (.aload_n 0, 1) := by decide +kernel
theorem d25_8 : decode jdk_42_method_109_code 8 = .ok (.aload_n 0, 1) := by decide +kernel
theorem d25_9 : decode jdk_42_method_109_code 9 = .ok (.getfield 9, 3) := by decide +kernel
theorem d25_12 : decode jdk_42_method_109_code 12 = .ok (.aload_n 1, 1) := by decide +kernel
theorem d25_13 : decode jdk_42_method_109_code 13 = .ok (.invokestatic 839, 3) := by decide +kernel
theorem d25_16 : decode jdk_42_method_109_code 16 = .ok (.goto 12, 3) := by decide +kernel
theorem d25_28 : decode jdk_42_method_109_code 28 = .ok (.areturn, 1) := by decide +kernel
abbrev RMrmLow : Room := { frames := 3, cells := 8, slots := 48, locals := 47 }
theorem ef_rmLow (m : MethodId) (a1 : Addr) (rt : Addr) : entryFrame m #[(.ref a1), (.ref rt)] 2 = mkF m 0 #[.val (.ref a1), .val (.ref rt)] [] := by first | (simp [entryFrame, mkF, argsToLocals, Value.category]; done) | rfl
def QrmLow (Z : State) (zc : Int32) (fm : Value) (rt : Addr) (bl : Addr) (lg : Addr) (lv : Addr) (lk : ClassId) (ci : Addr) (a1 : Addr) (cs : List Int32) (h0 : Heap) (v : Option Value) (h : Heap) (L : List Loc) : Prop := ∃ (r : Addr), v = some (.ref r) ∧ Fr Z.heap.size L ∧ Keep h0 h [] ∧ IsStr Z h r (cs.map own_low)
set_option maxRecDepth 65536 in
set_option maxHeartbeats 40000000 in
theorem rmLow (l : Launch) (Z : State) (a0 : Array Value) (hw : ∀ d ∈ tables_1, d.before a0 Z = true) (zc : Int32) (fm : Value) (rt : Addr) (bl : Addr) (lg : Addr) (lv : Addr) (lk : ClassId) (ci : Addr) (S_CS : Sta Z Z.heap "java/lang/String" "COMPACT_STRINGS" "Z" (.int zc)) (hzc : ¬ zc = 0) (S_SF : Sta Z Z.heap "jdk/internal/util/Preconditions" "SIOOBE_FORMATTER" "Ljava/util/function/BiFunction;" fm) (h_fm : fm.isRef = true) (S_RT : Sta Z Z.heap "java/util/Locale" "ROOT" "Ljava/util/Locale;" (.ref rt)) (E_rt : Exa Z Z.heap rt "java/util/Locale") (F_bl : Fld Z Z.heap rt "java/util/Locale" "baseLocale" "Lsun/util/locale/BaseLocale;" (.ref bl)) (E_bl : Exa Z Z.heap bl "sun/util/locale/BaseLocale") (F_lg : Fld Z Z.heap bl "sun/util/locale/BaseLocale" "language" "Ljava/lang/String;" (.ref lg)) (E_lg : Exa Z Z.heap lg "java/lang/String") (F_lv : Fld Z Z.heap lg "java/lang/String" "value" "[B" (.ref lv)) (A_lv : Arv Z Z.heap lv lk .byte (0 : Int32) [] (.int (0 : Int32))) (S_CI : Sta Z Z.heap "java/lang/CharacterDataLatin1" "instance" "Ljava/lang/CharacterDataLatin1;" (.ref ci)) (E_ci : Exa Z Z.heap ci "java/lang/CharacterDataLatin1") (hEL : EW Z a0 EL) (ws : List Jvm.Cond) (a1 : Addr) (cs : List Int32) (h0 : Heap) (O0 : Ext Z.heap h0) (Ss : IsStr Z h0 a1 cs) (hl : cs.length ≤ 8) :
    MetFree l (⟨"java/lang/String", "toLowerCase", "(Ljava/util/Locale;)Ljava/lang/String;"⟩ : MethodName) (head1 (Jvm.Cond.code (⟨"java/lang/String", "toLowerCase", "(Ljava/util/Locale;)Ljava/lang/String;"⟩ : MethodName) jdk_42_method_109_code 2 (some (.object "java/lang/String")) :: ws) RMrmLow) (fun a U => a = #[(.ref a1), (.ref rt)] ∧ Z.Warmed39 U.vm ∧ U.heap = h0 ∧ CHv Z EL U.vm h0) (fun _ _ _ _ _ => True) (fun _ U o U' => ∃ v L, o = .returned v ∧ QrmLow Z zc fm rt bl lg lv lk ci a1 cs h0 v U'.heap L ∧ CHr Z EL U.vm U.heap U'.vm U'.heap ∧ ReturnedEndW U o U' L RMrmLow.cells RMrmLow.slots) := by
  refine MetFree.of_bodySF (plainFor_of_name pn_java_lang_String) hisR ?_
  intro p e s m args below meth c s₁ Bd hml0 hP hK
  obtain ⟨rfl, hZ, hh, hC0⟩ := hP
  have hx := Bd.exec
  have hby := Bd.bytes
  have hlk : meth.locks = false := BodyLoose.notSynchronized Bd
  have hret := Bd.returns
  have hml : c.maxLocals = 2 := hml0
  have hown : s.vm.findClass "java/lang/String" = some m.cls := findClass_of_methodNamed Bd.named
  have hnm := (name_of_methodNamed Bd.named Bd.method).1
  have X0 : Stand p l e RMrmLow (s.setVm s.vm) m #[(.ref a1), (.ref rt)] below meth c s₁ [] 0 0 := Stand.of_body Bd
  have e0 : s₁.heap = h0 := by rw [← hh, Bd.state]; rfl
  have N0 := Fr.nil Z.heap.size
  have hZ : Z.Warmed39 (s.setVm s.vm).vm := hZ
  have hS0 : s.Since s.vm h0.size := (State.WarmedH.refl s).since _
  have hk0 : h0.size ≤ h0.size := Nat.le_refl _
  have HR0 : CHr Z EL s.vm h0 s.vm h0 := CHr.refl hC0
  have hwS : ∀ d ∈ Bundle.stringAtoms, d.before a0 Z = true := fun d hd => hw d (own_strAtoms d hd)
  show OEnd p e below (GW s Z EL (QrmLow Z zc fm rt bl lg lv lk ci a1 cs h0) RMrmLow.cells RMrmLow.slots) _
  refine OEnd.of (fun tq kq => castTop (ef_rmLow m a1 rt) kq) ?_
  have So262 := Ss
  obtain ⟨Eo262, Co262, ⟨to262, ko262, Vo262, Ao262⟩, Bo262, lo262⟩ := So262
  refine OEnd.of (fun tq kq => XS.aloadN X0.here hx rfl (hb hby d25_0) rfl rfl kq) ?_
  show OEnd p e below _ (s₁.setTop (mkF m 1 #[.val (.ref a1), .val (.ref rt)] [(.ref a1)]))
  obtain ⟨cq263, kq263, q263a, q263b, q263c⟩ := isOf hZ e0 Eo262
  obtain ⟨_, _, ⟨T263, L263, k263, n263⟩, -, X263, ⟨Lc263, hQ263, l263, y263, z263⟩, st263⟩ := X0.virtualBack hx (y := (⟨"java/lang/String", "isLatin1", "()Z"⟩ : MethodName)) (z := (⟨"java/lang/String", "isLatin1", "()Z"⟩ : MethodName)) hown (mvT hZ (hw _ (List.mem_of_getElem? (i := 48) rfl))) (mvT hZ (hw _ (List.mem_of_getElem? (i := 49) rfl))) (notFace_of_selects (args := #[]) (mvT hZ (hw _ (List.mem_of_getElem? (i := 51) rfl)))) (mvT hZ (hw _ (List.mem_of_getElem? (i := 51) rfl))) (mvT hZ (hw _ (List.mem_of_getElem? (i := 50) rfl))) (by decide) (backOf (W := 0) (rmIsl l Z a0 hw zc fm rt bl lg lv lk ci S_CS hzc S_SF h_fm S_RT E_rt F_bl E_bl F_lg E_lg F_lv A_lv S_CI E_ci [] a1 cs h0 O0 Ss) hZ (hw _ (List.mem_of_getElem? (i := 52) rfl)) (hw _ (List.mem_of_getElem? (i := 7) rfl)) (by decide) (by decide)) q263a q263c (g := (mkF m 1 #[.val (.ref a1), .val (.ref rt)] [(.ref a1)])) rfl (by rw [hml]; rfl) (Steps.refl _) (argsL := []) (rest := []) (lenOf pd_2829Z rfl) rfl (by show 2 * 0 + _ ≤ _; exact Nat.le_of_eq rfl) (hb hby d25_1) (fun _ _ => ⟨rfl, e0, (by decide : 0 + 0 ≤ _), (by decide : 0 + 0 ≤ _)⟩)
  dsimp only [Pt.U, Pt.locs, Pt.cells, Pt.slots] at X263 l263 y263 z263 st263 hQ263
  subst l263 y263 z263
  obtain ⟨rfl, Nq263, e263⟩ := hQ263
  have N264 := Fr.app N0 Nq263
  refine OEnd.of (fun tq kq => st263.trans kq) ?_
  show OEnd p e below _ (T263.setTop (mkF m 4 #[.val (.ref a1), .val (.ref rt)] [(.int (1 : Int32))]))
  refine OEnd.of (fun tq kq => XS.ifNo X263.here hx rfl (hb hby d25_4) rfl ((if0 _ _).trans (feq (by decide : ¬ ((1 : Int32) = (0 : Int32)))).1) kq) ?_
  show OEnd p e below _ (T263.setTop (mkF m 7 #[.val (.ref a1), .val (.ref rt)] []))
  refine OEnd.of (fun tq kq => XS.aloadN X263.here hx rfl (hb hby d25_7) rfl rfl kq) ?_
  show OEnd p e below _ (T263.setTop (mkF m 8 #[.val (.ref a1), .val (.ref rt)] [(.ref a1)]))
  refine OEnd.of (fun tq kq => XS.aloadN X263.here hx rfl (hb hby d25_8) rfl rfl kq) ?_
  show OEnd p e below _ (T263.setTop (mkF m 9 #[.val (.ref a1), .val (.ref rt)] [(.ref a1), (.ref a1)]))
  obtain ⟨T265, X265, e265, st265⟩ := getF X263 hx hZ hown (host := "") (Or.inl (hw _ (List.mem_of_getElem? (i := 32) rfl))) Via.refl e263 Vo262 (g := (mkF m 9 #[.val (.ref a1), .val (.ref rt)] [(.ref a1), (.ref a1)])) rfl rfl (hb hby d25_9)
  refine OEnd.of st265 ?_
  show OEnd p e below _ (T265.setTop (mkF m 12 #[.val (.ref a1), .val (.ref rt)] [(.ref to262), (.ref a1)]))
  refine OEnd.of (fun tq kq => XS.aloadN X265.here hx rfl (hb hby d25_12) rfl rfl kq) ?_
  show OEnd p e below _ (T265.setTop (mkF m 13 #[.val (.ref a1), .val (.ref rt)] [(.ref rt), (.ref to262), (.ref a1)]))
  obtain ⟨_, vq266, ⟨T266, L266, k266, n266⟩, -, X266, S266, G266, ⟨Lc266, hQ266, l266, y266, z266, C266⟩, st266⟩ := callSS X265 hx (y := (⟨"java/lang/StringLatin1", "toLowerCase", "(Ljava/lang/String;[BLjava/util/Locale;)Ljava/lang/String;"⟩ : MethodName)) hown (mvT hZ (hw _ (List.mem_of_getElem? (i := 114) rfl))) (mvT hZ (hw _ (List.mem_of_getElem? (i := 115) rfl))) (mvT hZ (hw _ (List.mem_of_getElem? (i := 65) rfl))) (mvT hZ (hw _ (List.mem_of_getElem? (i := 116) rfl))) (by decide) (backOfSH (W := 0) (rmLLow l Z a0 hw zc fm rt bl lg lv lk ci S_CS hzc S_SF h_fm S_RT E_rt F_bl E_bl F_lg E_lg F_lv A_lv S_CI E_ci hEL [] a1 to262 ko262 cs h0 O0 Ss Ao262 Bo262 hl) hZ (hw _ (List.mem_of_getElem? (i := 116) rfl)) (hw _ (List.mem_of_getElem? (i := 65) rfl)) (by decide) (by decide) hEL HR0.1) (g := (mkF m 13 #[.val (.ref a1), .val (.ref rt)] [(.ref rt), (.ref to262), (.ref a1)])) rfl (by rw [hml]; rfl) (argsL := [(.ref a1), (.ref to262), (.ref rt)]) (rest := []) (lenOf pd_28Ljava2flang2fString3b5bBLjava2futil2fLocale3b29Ljava2flang2fString3b rfl) rfl (by show 2 * 0 + _ ≤ _; exact Nat.le_of_eq rfl) (hb hby d25_13) (fun _ _ => ⟨rfl, e265, (by decide : 0 + 8 ≤ _), (by decide : 0 + 48 ≤ _)⟩)
  dsimp only [Pt.U, Pt.locs, Pt.cells, Pt.slots] at X266 l266 y266 z266 st266 hQ266 S266 G266 C266
  subst l266 y266 z266
  obtain ⟨h266, e266⟩ : ∃ z, T266.heap = z := ⟨_, rfl⟩
  rw [e266] at hQ266 C266
  obtain ⟨r_267, rfl, Nq266, Kq266, S_268⟩ := hQ266
  have N269 := Fr.app N264 Nq266
  obtain ⟨X266, S266, hZ266, hown266⟩ := rebS hS0 (by rw [e265]; exact hk0) X266 S266 G266 hZ hown
  rw [e266] at S266
  have hk266 : h266.size ≤ h266.size := Nat.le_refl _
  have CR270 : CHr Z EL s.vm h0 T266.vm h266 := C266
  have HR271 : CHr Z EL s.vm h0 T266.vm h266 := HR0.trans CR270
  refine OEnd.of (fun tq kq => st266.trans kq) ?_
  show OEnd p e below _ (T266.setTop (mkF m 16 #[.val (.ref a1), .val (.ref rt)] [(.ref r_267)]))
  refine OEnd.of (fun tq kq => XS.goto X266.here hx rfl (pc0 := 16) (pc' := 28) rfl (hb hby d25_16) (by decide) (by decide) kq) ?_
  show OEnd p e below _ (T266.setTop (mkF m 28 #[.val (.ref a1), .val (.ref rt)] [(.ref r_267)]))
  have K272 : Keep h0 h266 [] := ((Keep.refl h0 []).trans Kq266 all0)
  exact OEnd.retAW X266 hx hlk e266 hh S266 hk266 hEL hZ266 HR271 hret rfl rfl (hb hby d25_28) ⟨r_267, rfl, N269, K272, S_268⟩ (by decide) (by decide)
theorem d36_0 : decode jdk_41_method_11_code 0 = .ok (.iload_n 0, 1) := by decide +kernel
theorem d36_1 : decode jdk_41_method_11_code 1 = .ok (.ifCond .lt 8, 3) := by decide +kernel
theorem d36_4 : decode jdk_41_method_11_code 4 = .ok (.iload_n 0, 1) := by decide +kernel
theorem d36_5 : decode jdk_41_method_11_code 5 = .ok (.iload_n 1, 1) := by decide +kernel
theorem d36_6 : decode jdk_41_method_11_code 6 = .ok (.if_icmp .lt 10, 3) := by decide +kernel
theorem d36_16 : decode jdk_41_method_11_code 16 = .ok (.iload_n 0, 1) := by decide +kernel
theorem d36_17 : decode jdk_41_method_11_code 17 = .ok (.ireturn, 1) := by decide +kernel
abbrev RMrmPci : Room := { frames := 0, cells := 0, slots := 0, locals := 0 }
theorem ef_rmPci (m : MethodId) (p1 : Int32) (p2 : Int32) (fv : Value) (h_fv : fv.isRef = true) : entryFrame m #[(.int p1), (.int p2), fv] 3 = mkF m 0 #[.val (.int p1), .val (.int p2), .val fv] [] := by rcases ref_cases h_fv with rfl | ⟨_, rfl⟩ <;> first | (simp [entryFrame, mkF, argsToLocals, Value.category]; done) | rfl
def QrmPci (Z : State) (zc : Int32) (fm : Value) (rt : Addr) (bl : Addr) (lg : Addr) (lv : Addr) (lk : ClassId) (ci : Addr) (p1 : Int32) (p2 : Int32) (fv : Value) (h0 : Heap) (v : Option Value) (h : Heap) (L : List Loc) : Prop := v = some (.int p1) ∧ Fr Z.heap.size L ∧ h = h0
set_option maxRecDepth 65536 in
set_option maxHeartbeats 40000000 in
theorem rmPci (l : Launch) (Z : State) (a0 : Array Value) (hw : ∀ d ∈ tables_1, d.before a0 Z = true) (zc : Int32) (fm : Value) (rt : Addr) (bl : Addr) (lg : Addr) (lv : Addr) (lk : ClassId) (ci : Addr) (S_CS : Sta Z Z.heap "java/lang/String" "COMPACT_STRINGS" "Z" (.int zc)) (hzc : ¬ zc = 0) (S_SF : Sta Z Z.heap "jdk/internal/util/Preconditions" "SIOOBE_FORMATTER" "Ljava/util/function/BiFunction;" fm) (h_fm : fm.isRef = true) (S_RT : Sta Z Z.heap "java/util/Locale" "ROOT" "Ljava/util/Locale;" (.ref rt)) (E_rt : Exa Z Z.heap rt "java/util/Locale") (F_bl : Fld Z Z.heap rt "java/util/Locale" "baseLocale" "Lsun/util/locale/BaseLocale;" (.ref bl)) (E_bl : Exa Z Z.heap bl "sun/util/locale/BaseLocale") (F_lg : Fld Z Z.heap bl "sun/util/locale/BaseLocale" "language" "Ljava/lang/String;" (.ref lg)) (E_lg : Exa Z Z.heap lg "java/lang/String") (F_lv : Fld Z Z.heap lg "java/lang/String" "value" "[B" (.ref lv)) (A_lv : Arv Z Z.heap lv lk .byte (0 : Int32) [] (.int (0 : Int32))) (S_CI : Sta Z Z.heap "java/lang/CharacterDataLatin1" "instance" "Ljava/lang/CharacterDataLatin1;" (.ref ci)) (E_ci : Exa Z Z.heap ci "java/lang/CharacterDataLatin1") (ws : List Jvm.Cond) (p1 : Int32) (p2 : Int32) (fv : Value) (h0 : Heap) (O0 : Ext Z.heap h0) (h_fv : fv.isRef = true) (h1 : ¬ p1 < 0) (h2 : p1 < p2) :
    MetFree l (⟨"jdk/internal/util/Preconditions", "checkIndex", "(IILjava/util/function/BiFunction;)I"⟩ : MethodName) (head1 (Jvm.Cond.code (⟨"jdk/internal/util/Preconditions", "checkIndex", "(IILjava/util/function/BiFunction;)I"⟩ : MethodName) jdk_41_method_11_code 3 (some .int) :: ws) RMrmPci) (fun a U => a = #[(.int p1), (.int p2), fv] ∧ Z.Warmed39 U.vm ∧ U.heap = h0) (fun _ _ _ _ _ => True) (fun _ U o U' => ∃ v L, o = .returned v ∧ QrmPci Z zc fm rt bl lg lv lk ci p1 p2 fv h0 v U'.heap L ∧ FrameEnd U o U' L RMrmPci.cells RMrmPci.slots) := by
  refine MetFree.of_bodySF (plainFor_of_name pn_jdk_internal_util_Preconditions) hisR ?_
  intro p e s m args below meth c s₁ Bd hml0 hP hK
  obtain ⟨rfl, hZ, hh⟩ := hP
  have hx := Bd.exec
  have hby := Bd.bytes
  have hlk : meth.locks = false := BodyLoose.notSynchronized Bd
  have hret := Bd.returns
  have hml : c.maxLocals = 3 := hml0
  have hown : s.vm.findClass "jdk/internal/util/Preconditions" = some m.cls := findClass_of_methodNamed Bd.named
  have hnm := (name_of_methodNamed Bd.named Bd.method).1
  have X0 : Stand p l e RMrmPci s m #[(.int p1), (.int p2), fv] below meth c s₁ [] 0 0 := Stand.of_body Bd
  have e0 : s₁.heap = h0 := by rw [← hh, Bd.state]; rfl
  have N0 := Fr.nil Z.heap.size
  show OEnd p e below (GN s (QrmPci Z zc fm rt bl lg lv lk ci p1 p2 fv h0) RMrmPci.cells RMrmPci.slots) _
  refine OEnd.of (fun tq kq => castTop (ef_rmPci m p1 p2 fv h_fv) kq) ?_
  refine OEnd.of (fun tq kq => XS.iloadN X0.here hx rfl (hb hby d36_0) rfl kq) ?_
  show OEnd p e below _ (s₁.setTop (mkF m 1 #[.val (.int p1), .val (.int p2), .val fv] [(.int p1)]))
  refine OEnd.of (fun tq kq => XS.ifNo X0.here hx rfl (hb hby d36_1) rfl ((if0 _ _).trans (flt h1).1) kq) ?_
  show OEnd p e below _ (s₁.setTop (mkF m 4 #[.val (.int p1), .val (.int p2), .val fv] []))
  refine OEnd.of (fun tq kq => XS.iloadN X0.here hx rfl (hb hby d36_4) rfl kq) ?_
  show OEnd p e below _ (s₁.setTop (mkF m 5 #[.val (.int p1), .val (.int p2), .val fv] [(.int p1)]))
  refine OEnd.of (fun tq kq => XS.iloadN X0.here hx rfl (hb hby d36_5) rfl kq) ?_
  show OEnd p e below _ (s₁.setTop (mkF m 6 #[.val (.int p1), .val (.int p2), .val fv] [(.int p2), (.int p1)]))
  refine OEnd.of (fun tq kq => XS.icmpYes X0.here hx rfl (pc0 := 6) (pc' := 16) rfl (hb hby d36_6) rfl (tlt h2).1 (by decide) (by decide) kq) ?_
  show OEnd p e below _ (s₁.setTop (mkF m 16 #[.val (.int p1), .val (.int p2), .val fv] []))
  refine OEnd.of (fun tq kq => XS.iloadN X0.here hx rfl (hb hby d36_16) rfl kq) ?_
  show OEnd p e below _ (s₁.setTop (mkF m 17 #[.val (.int p1), .val (.int p2), .val fv] [(.int p1)]))
  exact OEnd.retI X0 hx hlk e0 hret (hb hby d36_17) ⟨rfl, N0, rfl⟩ (by decide) (by decide)
theorem pd_28IILjava2futil2ffunction2fBiFunction3b29I : parseMethodDescriptor "(IILjava/util/function/BiFunction;)I" = some ⟨[.int, .int, (.object "java/util/function/BiFunction")], some .int⟩ := by decide +kernel
theorem d35_0 : decode jdk_42_method_155_code 0 = .ok (.iload_n 0, 1) := by decide +kernel
theorem d35_1 : decode jdk_42_method_155_code 1 = .ok (.iload_n 1, 1) := by decide +kernel
theorem d35_2 : decode jdk_42_method_155_code 2 = .ok (.getstatic 1053, 3) := by decide +kernel
theorem d35_5 : decode jdk_42_method_155_code 5 = .ok (.invokestatic 1059, 3) := by decide +kernel
theorem d35_8 : decode jdk_42_method_155_code 8 = .ok (.pop, 1) := by decide +kernel
theorem d35_9 : decode jdk_42_method_155_code 9 = .ok (.return_, 1) := by decide +kernel
abbrev RMrmCi : Room := { frames := 1, cells := 0, slots := 0, locals := 14 }
theorem ef_rmCi (m : MethodId) (p1 : Int32) (p2 : Int32) : entryFrame m #[(.int p1), (.int p2)] 2 = mkF m 0 #[.val (.int p1), .val (.int p2)] [] := by first | (simp [entryFrame, mkF, argsToLocals, Value.category]; done) | rfl
def QrmCi (Z : State) (zc : Int32) (fm : Value) (rt : Addr) (bl : Addr) (lg : Addr) (lv : Addr) (lk : ClassId) (ci : Addr) (p1 : Int32) (p2 : Int32) (h0 : Heap) (v : Option Value) (h : Heap) (L : List Loc) : Prop := v = none ∧ Fr Z.heap.size L ∧ h = h0
set_option maxRecDepth 65536 in
set_option maxHeartbeats 40000000 in
theorem rmCi (l : Launch) (Z : State) (a0 : Array Value) (hw : ∀ d ∈ tables_1, d.before a0 Z = true) (zc : Int32) (fm : Value) (rt : Addr) (bl : Addr) (lg : Addr) (lv : Addr) (lk : ClassId) (ci : Addr) (S_CS : Sta Z Z.heap "java/lang/String" "COMPACT_STRINGS" "Z" (.int zc)) (hzc : ¬ zc = 0) (S_SF : Sta Z Z.heap "jdk/internal/util/Preconditions" "SIOOBE_FORMATTER" "Ljava/util/function/BiFunction;" fm) (h_fm : fm.isRef = true) (S_RT : Sta Z Z.heap "java/util/Locale" "ROOT" "Ljava/util/Locale;" (.ref rt)) (E_rt : Exa Z Z.heap rt "java/util/Locale") (F_bl : Fld Z Z.heap rt "java/util/Locale" "baseLocale" "Lsun/util/locale/BaseLocale;" (.ref bl)) (E_bl : Exa Z Z.heap bl "sun/util/locale/BaseLocale") (F_lg : Fld Z Z.heap bl "sun/util/locale/BaseLocale" "language" "Ljava/lang/String;" (.ref lg)) (E_lg : Exa Z Z.heap lg "java/lang/String") (F_lv : Fld Z Z.heap lg "java/lang/String" "value" "[B" (.ref lv)) (A_lv : Arv Z Z.heap lv lk .byte (0 : Int32) [] (.int (0 : Int32))) (S_CI : Sta Z Z.heap "java/lang/CharacterDataLatin1" "instance" "Ljava/lang/CharacterDataLatin1;" (.ref ci)) (E_ci : Exa Z Z.heap ci "java/lang/CharacterDataLatin1") (ws : List Jvm.Cond) (p1 : Int32) (p2 : Int32) (h0 : Heap) (O0 : Ext Z.heap h0) (h1 : ¬ p1 < 0) (h2 : p1 < p2) :
    MetFree l (⟨"java/lang/String", "checkIndex", "(II)V"⟩ : MethodName) (head1 (Jvm.Cond.code (⟨"java/lang/String", "checkIndex", "(II)V"⟩ : MethodName) jdk_42_method_155_code 2 none :: ws) RMrmCi) (fun a U => a = #[(.int p1), (.int p2)] ∧ Z.Warmed39 U.vm ∧ U.heap = h0) (fun _ _ _ _ _ => True) (fun _ U o U' => ∃ v L, o = .returned v ∧ QrmCi Z zc fm rt bl lg lv lk ci p1 p2 h0 v U'.heap L ∧ FrameEnd U o U' L RMrmCi.cells RMrmCi.slots) := by
  refine MetFree.of_bodySF (plainFor_of_name pn_java_lang_String) hisR ?_
  intro p e s m args below meth c s₁ Bd hml0 hP hK
  obtain ⟨rfl, hZ, hh⟩ := hP
  have hx := Bd.exec
  have hby := Bd.bytes
  have hlk : meth.locks = false := BodyLoose.notSynchronized Bd
  have hret := Bd.returns
  have hml : c.maxLocals = 2 := hml0
  have hown : s.vm.findClass "java/lang/String" = some m.cls := findClass_of_methodNamed Bd.named
  have hnm := (name_of_methodNamed Bd.named Bd.method).1
  have X0 : Stand p l e RMrmCi s m #[(.int p1), (.int p2)] below meth c s₁ [] 0 0 := Stand.of_body Bd
  have e0 : s₁.heap = h0 := by rw [← hh, Bd.state]; rfl
  have N0 := Fr.nil Z.heap.size
  show OEnd p e below (GN s (QrmCi Z zc fm rt bl lg lv lk ci p1 p2 h0) RMrmCi.cells RMrmCi.slots) _
  refine OEnd.of (fun tq kq => castTop (ef_rmCi m p1 p2) kq) ?_
  refine OEnd.of (fun tq kq => XS.iloadN X0.here hx rfl (hb hby d35_0) rfl kq) ?_
  show OEnd p e below _ (s₁.setTop (mkF m 1 #[.val (.int p1), .val (.int p2)] [(.int p1)]))
  refine OEnd.of (fun tq kq => XS.iloadN X0.here hx rfl (hb hby d35_1) rfl kq) ?_
  show OEnd p e below _ (s₁.setTop (mkF m 2 #[.val (.int p1), .val (.int p2)] [(.int p2), (.int p1)]))
  obtain ⟨T273, X273, e273, st273⟩ := getS2 X0 hx hZ hown (host := "") (Or.inl (hw _ (List.mem_of_getElem? (i := 88) rfl))) Via.refl e0 (Sta.ext O0 S_SF) (g := (mkF m 2 #[.val (.int p1), .val (.int p2)] [(.int p2), (.int p1)])) rfl (hb hby d35_2)
  refine OEnd.of st273 ?_
  show OEnd p e below _ (T273.setTop (mkF m 5 #[.val (.int p1), .val (.int p2)] [fm, (.int p2), (.int p1)]))
  obtain ⟨_, _, ⟨T274, L274, k274, n274⟩, -, X274, ⟨Lc274, hQ274, l274, y274, z274⟩, st274⟩ := Jvm.LawKit.callS X273 hx (y := (⟨"jdk/internal/util/Preconditions", "checkIndex", "(IILjava/util/function/BiFunction;)I"⟩ : MethodName)) hown (mvT hZ (hw _ (List.mem_of_getElem? (i := 159) rfl))) (mvT hZ (hw _ (List.mem_of_getElem? (i := 160) rfl))) (mvT hZ (hw _ (List.mem_of_getElem? (i := 89) rfl))) (mvT hZ (hw _ (List.mem_of_getElem? (i := 161) rfl))) (by decide) (backOf (W := 0) (rmPci l Z a0 hw zc fm rt bl lg lv lk ci S_CS hzc S_SF h_fm S_RT E_rt F_bl E_bl F_lg E_lg F_lv A_lv S_CI E_ci [] p1 p2 fm h0 O0 h_fm h1 h2) hZ (hw _ (List.mem_of_getElem? (i := 161) rfl)) (hw _ (List.mem_of_getElem? (i := 89) rfl)) (by decide) (by decide)) (g := (mkF m 5 #[.val (.int p1), .val (.int p2)] [fm, (.int p2), (.int p1)])) rfl (by rw [hml]; rfl) (argsL := [(.int p1), (.int p2), fm]) (rest := []) (lenOf pd_28IILjava2futil2ffunction2fBiFunction3b29I rfl) rfl (by show 2 * 0 + _ ≤ _; exact Nat.le_of_eq rfl) (hb hby d35_5) (fun _ _ => ⟨rfl, e273, (by decide : 0 + 0 ≤ _), (by decide : 0 + 0 ≤ _)⟩)
  dsimp only [Pt.U, Pt.locs, Pt.cells, Pt.slots] at X274 l274 y274 z274 st274 hQ274
  subst l274 y274 z274
  obtain ⟨rfl, Nq274, e274⟩ := hQ274
  have N275 := Fr.app N0 Nq274
  refine OEnd.of st274 ?_
  show OEnd p e below _ (T274.setTop (mkF m 8 #[.val (.int p1), .val (.int p2)] [(.int p1)]))
  refine OEnd.of (fun tq kq => XS.pop X274.here hx rfl (hb hby d35_8) rfl rfl kq) ?_
  show OEnd p e below _ (T274.setTop (mkF m 9 #[.val (.int p1), .val (.int p2)] []))
  exact OEnd.retV X274 hx hlk e274 hret (hb hby d35_9) ⟨rfl, N275, rfl⟩ (by decide) (by decide)
theorem d34_0 : decode jdk_43_method_2_code 0 = .ok (.iload_n 1, 1) := by decide +kernel
theorem d34_1 : decode jdk_43_method_2_code 1 = .ok (.aload_n 0, 1) := by decide +kernel
theorem d34_2 : decode jdk_43_method_2_code 2 = .ok (.arraylength, 1) := by decide +kernel
theorem d34_3 : decode jdk_43_method_2_code 3 = .ok (.invokestatic 9, 3) := by decide +kernel
theorem d34_6 : decode jdk_43_method_2_code 6 = .ok (.aload_n 0, 1) := by decide +kernel
theorem d34_7 : decode jdk_43_method_2_code 7 = .ok (.iload_n 1, 1) := by decide +kernel
theorem d34_8 : decode jdk_43_method_2_code 8 = .ok (.baload, 1) := by decide +kernel
theorem d34_9 : decode jdk_43_method_2_code 9 = .ok (.sipush 255, 3) := by decide +kernel
theorem d34_12 : decode jdk_43_method_2_code 12 = .ok (.iand, 1) := by decide +kernel
theorem d34_13 : decode jdk_43_method_2_code 13 = .ok (.i2c, 1) := by decide +kernel
theorem d34_14 : decode jdk_43_method_2_code 14 = .ok (.ireturn, 1) := by decide +kernel
abbrev RMrmLca : Room := { frames := 2, cells := 0, slots := 0, locals := 27 }
theorem ef_rmLca (m : MethodId) (t : Addr) (k : Nat) : entryFrame m #[(.ref t), (.int (Int32.ofNat k))] 2 = mkF m 0 #[.val (.ref t), .val (.int (Int32.ofNat k))] [] := by first | (simp [entryFrame, mkF, argsToLocals, Value.category]; done) | rfl
def QrmLca (Z : State) (zc : Int32) (fm : Value) (rt : Addr) (bl : Addr) (lg : Addr) (lv : Addr) (lk : ClassId) (ci : Addr) (t : Addr) (kb : ClassId) (cs : List Int32) (k : Nat) (h0 : Heap) (v : Option Value) (h : Heap) (L : List Loc) : Prop := v = some (.int (cs.getD k 0)) ∧ Fr Z.heap.size L ∧ h = h0
set_option maxRecDepth 65536 in
set_option maxHeartbeats 40000000 in
theorem rmLca (l : Launch) (Z : State) (a0 : Array Value) (hw : ∀ d ∈ tables_1, d.before a0 Z = true) (zc : Int32) (fm : Value) (rt : Addr) (bl : Addr) (lg : Addr) (lv : Addr) (lk : ClassId) (ci : Addr) (S_CS : Sta Z Z.heap "java/lang/String" "COMPACT_STRINGS" "Z" (.int zc)) (hzc : ¬ zc = 0) (S_SF : Sta Z Z.heap "jdk/internal/util/Preconditions" "SIOOBE_FORMATTER" "Ljava/util/function/BiFunction;" fm) (h_fm : fm.isRef = true) (S_RT : Sta Z Z.heap "java/util/Locale" "ROOT" "Ljava/util/Locale;" (.ref rt)) (E_rt : Exa Z Z.heap rt "java/util/Locale") (F_bl : Fld Z Z.heap rt "java/util/Locale" "baseLocale" "Lsun/util/locale/BaseLocale;" (.ref bl)) (E_bl : Exa Z Z.heap bl "sun/util/locale/BaseLocale") (F_lg : Fld Z Z.heap bl "sun/util/locale/BaseLocale" "language" "Ljava/lang/String;" (.ref lg)) (E_lg : Exa Z Z.heap lg "java/lang/String") (F_lv : Fld Z Z.heap lg "java/lang/String" "value" "[B" (.ref lv)) (A_lv : Arv Z Z.heap lv lk .byte (0 : Int32) [] (.int (0 : Int32))) (S_CI : Sta Z Z.heap "java/lang/CharacterDataLatin1" "instance" "Ljava/lang/CharacterDataLatin1;" (.ref ci)) (E_ci : Exa Z Z.heap ci "java/lang/CharacterDataLatin1") (ws : List Jvm.Cond) (t : Addr) (kb : ClassId) (cs : List Int32) (k : Nat) (h0 : Heap) (O0 : Ext Z.heap h0) (At : Arv Z h0 t kb .byte (Int32.ofNat cs.length) (BB cs) (.int (0 : Int32))) (hcs : ∀ c ∈ cs, ¬ c < 0 ∧ ¬ (255 : Int32) < c) (hl : cs.length ≤ 8) (hk : k < cs.length) :
    MetFree l (⟨"java/lang/StringLatin1", "charAt", "([BI)C"⟩ : MethodName) (head1 (Jvm.Cond.code (⟨"java/lang/StringLatin1", "charAt", "([BI)C"⟩ : MethodName) jdk_43_method_2_code 2 (some .char) :: ws) RMrmLca) (fun a U => a = #[(.ref t), (.int (Int32.ofNat k))] ∧ Z.Warmed39 U.vm ∧ U.heap = h0) (fun _ _ _ _ _ => True) (fun _ U o U' => ∃ v L, o = .returned v ∧ QrmLca Z zc fm rt bl lg lv lk ci t kb cs k h0 v U'.heap L ∧ FrameEnd U o U' L RMrmLca.cells RMrmLca.slots) := by
  refine MetFree.of_bodySF (plainFor_of_name pn_java_lang_StringLatin1) hisR ?_
  intro p e s m args below meth c s₁ Bd hml0 hP hK
  obtain ⟨rfl, hZ, hh⟩ := hP
  have hx := Bd.exec
  have hby := Bd.bytes
  have hlk : meth.locks = false := BodyLoose.notSynchronized Bd
  have hret := Bd.returns
  have hml : c.maxLocals = 2 := hml0
  have hown : s.vm.findClass "java/lang/StringLatin1" = some m.cls := findClass_of_methodNamed Bd.named
  have hnm := (name_of_methodNamed Bd.named Bd.method).1
  have X0 : Stand p l e RMrmLca s m #[(.ref t), (.int (Int32.ofNat k))] below meth c s₁ [] 0 0 := Stand.of_body Bd
  have e0 : s₁.heap = h0 := by rw [← hh, Bd.state]; rfl
  have N0 := Fr.nil Z.heap.size
  show OEnd p e below (GN s (QrmLca Z zc fm rt bl lg lv lk ci t kb cs k h0) RMrmLca.cells RMrmLca.slots) _
  refine OEnd.of (fun tq kq => castTop (ef_rmLca m t k) kq) ?_
  have hl4 : cs.length ≤ 4000 := Nat.le_trans hl (by decide)
  refine OEnd.of (fun tq kq => XS.iloadN X0.here hx rfl (hb hby d34_0) rfl kq) ?_
  show OEnd p e below _ (s₁.setTop (mkF m 1 #[.val (.ref t), .val (.int (Int32.ofNat k))] [(.int (Int32.ofNat k))]))
  refine OEnd.of (fun tq kq => XS.aloadN X0.here hx rfl (hb hby d34_1) rfl rfl kq) ?_
  show OEnd p e below _ (s₁.setTop (mkF m 2 #[.val (.ref t), .val (.int (Int32.ofNat k))] [(.ref t), (.int (Int32.ofNat k))]))
  have Vc276 := At
  obtain ⟨cl276, Ar276, -, S276, N276, -, -⟩ := Vc276
  refine OEnd.of (X0.arraylength hx (by rw [e0]; exact Ar276.1) (State.isArrayOf_alike hZ.alike Ar276.2.1) (g := (mkF m 2 #[.val (.ref t), .val (.int (Int32.ofNat k))] [(.ref t), (.int (Int32.ofNat k))])) rfl rfl (hb hby d34_2)) ?_
  rw [len_of S276 N276]
  show OEnd p e below _ (s₁.setTop (mkF m 3 #[.val (.ref t), .val (.int (Int32.ofNat k))] [(.int (Int32.ofNat cs.length)), (.int (Int32.ofNat k))]))
  obtain ⟨_, _, ⟨T277, L277, k277, n277⟩, -, X277, ⟨Lc277, hQ277, l277, y277, z277⟩, st277⟩ := Jvm.LawKit.callS X0 hx (y := (⟨"java/lang/String", "checkIndex", "(II)V"⟩ : MethodName)) hown (mvT hZ (hw _ (List.mem_of_getElem? (i := 156) rfl))) (mvT hZ (hw _ (List.mem_of_getElem? (i := 157) rfl))) (mvT hZ (hw _ (List.mem_of_getElem? (i := 7) rfl))) (mvT hZ (hw _ (List.mem_of_getElem? (i := 158) rfl))) (by decide) (backOf (W := 0) (rmCi l Z a0 hw zc fm rt bl lg lv lk ci S_CS hzc S_SF h_fm S_RT E_rt F_bl E_bl F_lg E_lg F_lv A_lv S_CI E_ci [] (Int32.ofNat k) (Int32.ofNat cs.length) h0 O0 (own_nn (c := 4000) (by omega) (Nat.le_refl _)) ((own_ltN (by omega) hl4).mpr hk)) hZ (hw _ (List.mem_of_getElem? (i := 158) rfl)) (hw _ (List.mem_of_getElem? (i := 7) rfl)) (by decide) (by decide)) (g := (mkF m 3 #[.val (.ref t), .val (.int (Int32.ofNat k))] [(.int (Int32.ofNat cs.length)), (.int (Int32.ofNat k))])) rfl (by rw [hml]; rfl) (argsL := [(.int (Int32.ofNat k)), (.int (Int32.ofNat cs.length))]) (rest := []) (lenOf pd_28II29V rfl) rfl (by show 2 * 0 + _ ≤ _; exact Nat.le_of_eq rfl) (hb hby d34_3) (fun _ _ => ⟨rfl, e0, (by decide : 0 + 0 ≤ _), (by decide : 0 + 0 ≤ _)⟩)
  dsimp only [Pt.U, Pt.locs, Pt.cells, Pt.slots] at X277 l277 y277 z277 st277 hQ277
  subst l277 y277 z277
  obtain ⟨rfl, Nq277, e277⟩ := hQ277
  have N278 := Fr.app N0 Nq277
  refine OEnd.of st277 ?_
  show OEnd p e below _ (T277.setTop (mkF m 6 #[.val (.ref t), .val (.int (Int32.ofNat k))] []))
  refine OEnd.of (fun tq kq => XS.aloadN X277.here hx rfl (hb hby d34_6) rfl rfl kq) ?_
  show OEnd p e below _ (T277.setTop (mkF m 7 #[.val (.ref t), .val (.int (Int32.ofNat k))] [(.ref t)]))
  refine OEnd.of (fun tq kq => XS.iloadN X277.here hx rfl (hb hby d34_7) rfl kq) ?_
  show OEnd p e below _ (T277.setTop (mkF m 8 #[.val (.ref t), .val (.int (Int32.ofNat k))] [(.int (Int32.ofNat k)), (.ref t)]))
  have Vc279 := At
  obtain ⟨cl279, Ar279, q279, S279, N279, H279, G279⟩ := Vc279
  have hin279 : ¬ ((Int32.ofNat k) < 0 ∨ cl279.slots.size ≤ ((Int32.ofNat k)).toNatClampNeg) := own_inB S279 hk hl4
  refine OEnd.of (X277.baloadBytes hx (j := (Int32.ofNat k)) (v := (.int ((cs.getD k 0).toInt8.toInt32))) (by rw [e277]; exact Ar279.1) (State.isArrayOf_alike hZ.alike Ar279.2.1) Ar279.2.2 hin279 (H279.at hin279 (own_getB hk hl4)) (g := (mkF m 8 #[.val (.ref t), .val (.int (Int32.ofNat k))] [(.int (Int32.ofNat k)), (.ref t)])) rfl rfl (hb hby d34_8)) ?_
  show OEnd p e below _ (T277.setTop (mkF m 9 #[.val (.ref t), .val (.int (Int32.ofNat k))] [(.int ((cs.getD k 0).toInt8.toInt32))]))
  refine OEnd.of (fun tq kq => XS.sipush X277.here hx rfl (hb hby d34_9) kq) ?_
  show OEnd p e below _ (T277.setTop (mkF m 12 #[.val (.ref t), .val (.int (Int32.ofNat k))] [(.int (255 : Int32)), (.int ((cs.getD k 0).toInt8.toInt32))]))
  refine OEnd.of (fun tq kq => XS.iand X277.here hx rfl (hb hby d34_12) rfl kq) ?_
  show OEnd p e below _ (T277.setTop (mkF m 13 #[.val (.ref t), .val (.int (Int32.ofNat k))] [(.int (((cs.getD k 0).toInt8.toInt32) &&& (255 : Int32)))]))
  rw [show (((cs.getD k 0).toInt8.toInt32) &&& (255 : Int32)) = (cs.getD k 0) from own_lo8 (own_rng hcs k)]
  show OEnd p e below _ (T277.setTop (mkF m 13 #[.val (.ref t), .val (.int (Int32.ofNat k))] [(.int (cs.getD k 0))]))
  refine OEnd.of (fun tq kq => XS.i2c X277.here hx rfl (hb hby d34_13) rfl kq) ?_
  show OEnd p e below _ (T277.setTop (mkF m 14 #[.val (.ref t), .val (.int (Int32.ofNat k))] [(.int ((cs.getD k 0).toUInt32.toUInt16.toUInt32.toInt32))]))
  exact OEnd.retN X277 hx hlk e277 (t := .char) hret (by simp) (hb hby d34_14) ⟨(congrArg (fun z => some (Value.int z)) (own_narC2 (own_rng hcs k))), N278, rfl⟩ (by decide) (by decide)
theorem pd_285bBI29C : parseMethodDescriptor "([BI)C" = some ⟨[(.array .byte), .int], some .char⟩ := by decide +kernel
theorem d33_0 : decode jdk_42_method_56_code 0 = .ok (.aload_n 0, 1) := by decide +kernel
theorem d33_1 : decode jdk_42_method_56_code 1 = .ok (.invokevirtual 492, 3) := by decide +kernel
theorem d33_4 : decode jdk_42_method_56_code 4 = .ok (.ifCond .eq 12, 3) := by decide +kernel
theorem d33_7 : decode jdk_42_method_56_code 7 = .ok (.aload_n 0, 1) := by decide +kernel
theorem d33_8 : decode jdk_42_method_56_code 8 = .ok (.getfield 9, 3) := by decide +kernel
theorem d33_11 : decode jdk_42_method_56_code 11 = .ok (.iload_n 1, 1) := by decide +kernel
theorem d33_12 : decode jdk_42_method_56_code 12 = .ok (.invokestatic 495, 3) := by decide +kernel
theorem d33_15 : decode jdk_42_method_56_code 15 = .ok (.ireturn, 1) := by decide +kernel
abbrev RMrmCat : Room := { frames := 3, cells := 0, slots := 0, locals := 40 }
theorem ef_rmCat (m : MethodId) (a1 : Addr) (k : Nat) : entryFrame m #[(.ref a1), (.int (Int32.ofNat k))] 2 = mkF m 0 #[.val (.ref a1), .val (.int (Int32.ofNat k))] [] := by first | (simp [entryFrame, mkF, argsToLocals, Value.category]; done) | rfl
def QrmCat (Z : State) (zc : Int32) (fm : Value) (rt : Addr) (bl : Addr) (lg : Addr) (lv : Addr) (lk : ClassId) (ci : Addr) (a1 : Addr) (cs : List Int32) (k : Nat) (h0 : Heap) (v : Option Value) (h : Heap) (L : List Loc) : Prop := v = some (.int (cs.getD k 0)) ∧ Fr Z.heap.size L ∧ h = h0
set_option maxRecDepth 65536 in
set_option maxHeartbeats 40000000 in
theorem rmCat (l : Launch) (Z : State) (a0 : Array Value) (hw : ∀ d ∈ tables_1, d.before a0 Z = true) (zc : Int32) (fm : Value) (rt : Addr) (bl : Addr) (lg : Addr) (lv : Addr) (lk : ClassId) (ci : Addr) (S_CS : Sta Z Z.heap "java/lang/String" "COMPACT_STRINGS" "Z" (.int zc)) (hzc : ¬ zc = 0) (S_SF : Sta Z Z.heap "jdk/internal/util/Preconditions" "SIOOBE_FORMATTER" "Ljava/util/function/BiFunction;" fm) (h_fm : fm.isRef = true) (S_RT : Sta Z Z.heap "java/util/Locale" "ROOT" "Ljava/util/Locale;" (.ref rt)) (E_rt : Exa Z Z.heap rt "java/util/Locale") (F_bl : Fld Z Z.heap rt "java/util/Locale" "baseLocale" "Lsun/util/locale/BaseLocale;" (.ref bl)) (E_bl : Exa Z Z.heap bl "sun/util/locale/BaseLocale") (F_lg : Fld Z Z.heap bl "sun/util/locale/BaseLocale" "language" "Ljava/lang/String;" (.ref lg)) (E_lg : Exa Z Z.heap lg "java/lang/String") (F_lv : Fld Z Z.heap lg "java/lang/String" "value" "[B" (.ref lv)) (A_lv : Arv Z Z.heap lv lk .byte (0 : Int32) [] (.int (0 : Int32))) (S_CI : Sta Z Z.heap "java/lang/CharacterDataLatin1" "instance" "Ljava/lang/CharacterDataLatin1;" (.ref ci)) (E_ci : Exa Z Z.heap ci "java/lang/CharacterDataLatin1") (ws : List Jvm.Cond) (a1 : Addr) (cs : List Int32) (k : Nat) (h0 : Heap) (O0 : Ext Z.heap h0) (Ss : IsStr Z h0 a1 cs) (hl : cs.length ≤ 8) (hk : k < cs.length) :
    MetFree l (⟨"java/lang/String", "charAt", "(I)C"⟩ : MethodName) (head1 (Jvm.Cond.code (⟨"java/lang/String", "charAt", "(I)C"⟩ : MethodName) jdk_42_method_56_code 2 (some .char) :: ws) RMrmCat) (fun a U => a = #[(.ref a1), (.int (Int32.ofNat k))] ∧ Z.Warmed39 U.vm ∧ U.heap = h0) (fun _ _ _ _ _ => True) (fun _ U o U' => ∃ v L, o = .returned v ∧ QrmCat Z zc fm rt bl lg lv lk ci a1 cs k h0 v U'.heap L ∧ FrameEnd U o U' L RMrmCat.cells RMrmCat.slots) := by
  refine MetFree.of_bodySF (plainFor_of_name pn_java_lang_String) hisR ?_
  intro p e s m args below meth c s₁ Bd hml0 hP hK
  obtain ⟨rfl, hZ, hh⟩ := hP
  have hx := Bd.exec
  have hby := Bd.bytes
  have hlk : meth.locks = false := BodyLoose.notSynchronized Bd
  have hret := Bd.returns
  have hml : c.maxLocals = 2 := hml0
  have hown : s.vm.findClass "java/lang/String" = some m.cls := findClass_of_methodNamed Bd.named
  have hnm := (name_of_methodNamed Bd.named Bd.method).1
  have X0 : Stand p l e RMrmCat s m #[(.ref a1), (.int (Int32.ofNat k))] below meth c s₁ [] 0 0 := Stand.of_body Bd
  have e0 : s₁.heap = h0 := by rw [← hh, Bd.state]; rfl
  have N0 := Fr.nil Z.heap.size
  show OEnd p e below (GN s (QrmCat Z zc fm rt bl lg lv lk ci a1 cs k h0) RMrmCat.cells RMrmCat.slots) _
  refine OEnd.of (fun tq kq => castTop (ef_rmCat m a1 k) kq) ?_
  have So280 := Ss
  obtain ⟨Eo280, Co280, ⟨to280, ko280, Vo280, Ao280⟩, Bo280, lo280⟩ := So280
  refine OEnd.of (fun tq kq => XS.aloadN X0.here hx rfl (hb hby d33_0) rfl rfl kq) ?_
  show OEnd p e below _ (s₁.setTop (mkF m 1 #[.val (.ref a1), .val (.int (Int32.ofNat k))] [(.ref a1)]))
  obtain ⟨cq281, kq281, q281a, q281b, q281c⟩ := isOf hZ e0 Eo280
  obtain ⟨_, _, ⟨T281, L281, k281, n281⟩, -, X281, ⟨Lc281, hQ281, l281, y281, z281⟩, st281⟩ := X0.virtualBack hx (y := (⟨"java/lang/String", "isLatin1", "()Z"⟩ : MethodName)) (z := (⟨"java/lang/String", "isLatin1", "()Z"⟩ : MethodName)) hown (mvT hZ (hw _ (List.mem_of_getElem? (i := 48) rfl))) (mvT hZ (hw _ (List.mem_of_getElem? (i := 49) rfl))) (notFace_of_selects (args := #[]) (mvT hZ (hw _ (List.mem_of_getElem? (i := 51) rfl)))) (mvT hZ (hw _ (List.mem_of_getElem? (i := 51) rfl))) (mvT hZ (hw _ (List.mem_of_getElem? (i := 50) rfl))) (by decide) (backOf (W := 0) (rmIsl l Z a0 hw zc fm rt bl lg lv lk ci S_CS hzc S_SF h_fm S_RT E_rt F_bl E_bl F_lg E_lg F_lv A_lv S_CI E_ci [] a1 cs h0 O0 Ss) hZ (hw _ (List.mem_of_getElem? (i := 52) rfl)) (hw _ (List.mem_of_getElem? (i := 7) rfl)) (by decide) (by decide)) q281a q281c (g := (mkF m 1 #[.val (.ref a1), .val (.int (Int32.ofNat k))] [(.ref a1)])) rfl (by rw [hml]; rfl) (Steps.refl _) (argsL := []) (rest := []) (lenOf pd_2829Z rfl) rfl (by show 2 * 0 + _ ≤ _; exact Nat.le_of_eq rfl) (hb hby d33_1) (fun _ _ => ⟨rfl, e0, (by decide : 0 + 0 ≤ _), (by decide : 0 + 0 ≤ _)⟩)
  dsimp only [Pt.U, Pt.locs, Pt.cells, Pt.slots] at X281 l281 y281 z281 st281 hQ281
  subst l281 y281 z281
  obtain ⟨rfl, Nq281, e281⟩ := hQ281
  have N282 := Fr.app N0 Nq281
  refine OEnd.of (fun tq kq => st281.trans kq) ?_
  show OEnd p e below _ (T281.setTop (mkF m 4 #[.val (.ref a1), .val (.int (Int32.ofNat k))] [(.int (1 : Int32))]))
  refine OEnd.of (fun tq kq => XS.ifNo X281.here hx rfl (hb hby d33_4) rfl ((if0 _ _).trans (feq (by decide : ¬ ((1 : Int32) = (0 : Int32)))).1) kq) ?_
  show OEnd p e below _ (T281.setTop (mkF m 7 #[.val (.ref a1), .val (.int (Int32.ofNat k))] []))
  refine OEnd.of (fun tq kq => XS.aloadN X281.here hx rfl (hb hby d33_7) rfl rfl kq) ?_
  show OEnd p e below _ (T281.setTop (mkF m 8 #[.val (.ref a1), .val (.int (Int32.ofNat k))] [(.ref a1)]))
  obtain ⟨T283, X283, e283, st283⟩ := getF X281 hx hZ hown (host := "") (Or.inl (hw _ (List.mem_of_getElem? (i := 32) rfl))) Via.refl e281 Vo280 (g := (mkF m 8 #[.val (.ref a1), .val (.int (Int32.ofNat k))] [(.ref a1)])) rfl rfl (hb hby d33_8)
  refine OEnd.of st283 ?_
  show OEnd p e below _ (T283.setTop (mkF m 11 #[.val (.ref a1), .val (.int (Int32.ofNat k))] [(.ref to280)]))
  refine OEnd.of (fun tq kq => XS.iloadN X283.here hx rfl (hb hby d33_11) rfl kq) ?_
  show OEnd p e below _ (T283.setTop (mkF m 12 #[.val (.ref a1), .val (.int (Int32.ofNat k))] [(.int (Int32.ofNat k)), (.ref to280)]))
  obtain ⟨_, _, ⟨T284, L284, k284, n284⟩, -, X284, ⟨Lc284, hQ284, l284, y284, z284⟩, st284⟩ := Jvm.LawKit.callS X283 hx (y := (⟨"java/lang/StringLatin1", "charAt", "([BI)C"⟩ : MethodName)) hown (mvT hZ (hw _ (List.mem_of_getElem? (i := 153) rfl))) (mvT hZ (hw _ (List.mem_of_getElem? (i := 154) rfl))) (mvT hZ (hw _ (List.mem_of_getElem? (i := 65) rfl))) (mvT hZ (hw _ (List.mem_of_getElem? (i := 155) rfl))) (by decide) (backOf (W := 0) (rmLca l Z a0 hw zc fm rt bl lg lv lk ci S_CS hzc S_SF h_fm S_RT E_rt F_bl E_bl F_lg E_lg F_lv A_lv S_CI E_ci [] to280 ko280 cs k h0 O0 Ao280 Bo280 hl hk) hZ (hw _ (List.mem_of_getElem? (i := 155) rfl)) (hw _ (List.mem_of_getElem? (i := 65) rfl)) (by decide) (by decide)) (g := (mkF m 12 #[.val (.ref a1), .val (.int (Int32.ofNat k))] [(.int (Int32.ofNat k)), (.ref to280)])) rfl (by rw [hml]; rfl) (argsL := [(.ref to280), (.int (Int32.ofNat k))]) (rest := []) (lenOf pd_285bBI29C rfl) rfl (by show 2 * 0 + _ ≤ _; exact Nat.le_of_eq rfl) (hb hby d33_12) (fun _ _ => ⟨rfl, e283, (by decide : 0 + 0 ≤ _), (by decide : 0 + 0 ≤ _)⟩)
  dsimp only [Pt.U, Pt.locs, Pt.cells, Pt.slots] at X284 l284 y284 z284 st284 hQ284
  subst l284 y284 z284
  obtain ⟨rfl, Nq284, e284⟩ := hQ284
  have N285 := Fr.app N282 Nq284
  refine OEnd.of st284 ?_
  show OEnd p e below _ (T284.setTop (mkF m 15 #[.val (.ref a1), .val (.int (Int32.ofNat k))] [(.int (cs.getD k 0))]))
  exact OEnd.retN X284 hx hlk e284 (t := .char) hret (by simp) (hb hby d33_15) ⟨(congrArg (fun z => some (Value.int z)) (own_narC (own_rng Bo280 k))), N285, rfl⟩ (by decide) (by decide)
theorem pd_28Ljava2futil2fLocale3b29Ljava2flang2fString3b : parseMethodDescriptor "(Ljava/util/Locale;)Ljava/lang/String;" = some ⟨[(.object "java/util/Locale")], some (.object "java/lang/String")⟩ := by decide +kernel
theorem pd_28II29Ljava2flang2fString3b : parseMethodDescriptor "(II)Ljava/lang/String;" = some ⟨[.int, .int], some (.object "java/lang/String")⟩ := by decide +kernel
theorem d8_0 : decode prog_10_method_5_code 0 = .ok (.aload_n 0, 1) := by decide +kernel
theorem d8_1 : decode prog_10_method_5_code 1 = .ok (.bipush 59, 2) := by decide +kernel
theorem d8_3 : decode prog_10_method_5_code 3 = .ok (.invokevirtual 41, 3) := by decide +kernel
theorem d8_6 : decode prog_10_method_5_code 6 = .ok (.istore_n 1, 1) := by decide +kernel
theorem d8_7 : decode prog_10_method_5_code 7 = .ok (.iload_n 1, 1) := by decide +kernel
theorem d8_8 : decode prog_10_method_5_code 8 = .ok (.ifCond .ge 7, 3) := by decide +kernel
theorem d8_11 : decode prog_10_method_5_code 11 = .ok (.aload_n 0, 1) := by decide +kernel
theorem d8_12 : decode prog_10_method_5_code 12 = .ok (.goto 9, 3) := by decide +kernel
theorem d8_15 : decode prog_10_method_5_code 15 = .ok (.aload_n 0, 1) := by decide +kernel
theorem d8_16 : decode prog_10_method_5_code 16 = .ok (.iconst 0, 1) := by decide +kernel
theorem d8_17 : decode prog_10_method_5_code 17 = .ok (.iload_n 1, 1) := by decide +kernel
theorem d8_18 : decode prog_10_method_5_code 18 = .ok (.invokevirtual 20, 3) := by decide +kernel
theorem d8_21 : decode prog_10_method_5_code 21 = .ok (.invokevirtual 71, 3) := by decide +kernel
theorem d8_24 : decode prog_10_method_5_code 24 = .ok (.getstatic 49, 3) := by decide +kernel
theorem d8_27 : decode prog_10_method_5_code 27 = .ok (.invokevirtual 55, 3) := by decide +kernel
theorem d8_30 : decode prog_10_method_5_code 30 = .ok (.areturn, 1) := by decide +kernel
theorem pn_com_example_postil_postil_server_HeaderFields : plainName "com/example/postil/postil/server/HeaderFields" = true := by first | (simp [plainName, overriddenIn]; done) | decide +kernel
abbrev RMrmMt : Room := { frames := 6, cells := 12, slots := 72, locals := 97 }
theorem ef_rmMt (m : MethodId) (a1 : Addr) : entryFrame m #[(.ref a1)] 2 = mkF m 0 #[.val (.ref a1), .unset] [] := by first | (simp [entryFrame, mkF, argsToLocals, Value.category]; done) | rfl
def QrmMt (Z : State) (zc : Int32) (fm : Value) (rt : Addr) (bl : Addr) (lg : Addr) (lv : Addr) (lk : ClassId) (ci : Addr) (a1 : Addr) (cs : List Int32) (h0 : Heap) (v : Option Value) (h : Heap) (L : List Loc) : Prop := ∃ (r : Addr) (pp : Nat) (lf : Nat) (rg : Nat), v = some (.ref r) ∧ Fr Z.heap.size L ∧ Keep h0 h [] ∧ (own_Sc cs 59 pp) ∧ (own_Tr (cs.take pp) lf rg) ∧ IsStr Z h r ((((cs.take pp).drop lf).take (rg - lf)).map own_low)
set_option maxRecDepth 65536 in
set_option maxHeartbeats 40000000 in
theorem rmMt (l : Launch) (Z : State) (a0 : Array Value) (hw : ∀ d ∈ tables_1, d.before a0 Z = true) (zc : Int32) (fm : Value) (rt : Addr) (bl : Addr) (lg : Addr) (lv : Addr) (lk : ClassId) (ci : Addr) (S_CS : Sta Z Z.heap "java/lang/String" "COMPACT_STRINGS" "Z" (.int zc)) (hzc : ¬ zc = 0) (S_SF : Sta Z Z.heap "jdk/internal/util/Preconditions" "SIOOBE_FORMATTER" "Ljava/util/function/BiFunction;" fm) (h_fm : fm.isRef = true) (S_RT : Sta Z Z.heap "java/util/Locale" "ROOT" "Ljava/util/Locale;" (.ref rt)) (E_rt : Exa Z Z.heap rt "java/util/Locale") (F_bl : Fld Z Z.heap rt "java/util/Locale" "baseLocale" "Lsun/util/locale/BaseLocale;" (.ref bl)) (E_bl : Exa Z Z.heap bl "sun/util/locale/BaseLocale") (F_lg : Fld Z Z.heap bl "sun/util/locale/BaseLocale" "language" "Ljava/lang/String;" (.ref lg)) (E_lg : Exa Z Z.heap lg "java/lang/String") (F_lv : Fld Z Z.heap lg "java/lang/String" "value" "[B" (.ref lv)) (A_lv : Arv Z Z.heap lv lk .byte (0 : Int32) [] (.int (0 : Int32))) (S_CI : Sta Z Z.heap "java/lang/CharacterDataLatin1" "instance" "Ljava/lang/CharacterDataLatin1;" (.ref ci)) (E_ci : Exa Z Z.heap ci "java/lang/CharacterDataLatin1") (hEL : EW Z a0 EL) (ws : List Jvm.Cond) (a1 : Addr) (cs : List Int32) (h0 : Heap) (O0 : Ext Z.heap h0) (Ss : IsStr Z h0 a1 cs) (hl : cs.length ≤ 8) :
    MetFree l (⟨"com/example/postil/postil/server/HeaderFields", "mediaType", "(Ljava/lang/String;)Ljava/lang/String;"⟩ : MethodName) (head1 (Jvm.Cond.code (⟨"com/example/postil/postil/server/HeaderFields", "mediaType", "(Ljava/lang/String;)Ljava/lang/String;"⟩ : MethodName) prog_10_method_5_code 2 (some (.object "java/lang/String")) :: ws) RMrmMt) (fun a U => a = #[(.ref a1)] ∧ Z.Warmed39 U.vm ∧ U.heap = h0 ∧ CHv Z EL U.vm h0) (fun _ _ _ _ _ => True) (fun _ U o U' => ∃ v L, o = .returned v ∧ QrmMt Z zc fm rt bl lg lv lk ci a1 cs h0 v U'.heap L ∧ CHr Z EL U.vm U.heap U'.vm U'.heap ∧ ReturnedEndW U o U' L RMrmMt.cells RMrmMt.slots) := by
  refine MetFree.of_bodySF (plainFor_of_name pn_com_example_postil_postil_server_HeaderFields) hisR ?_
  intro p e s m args below meth c s₁ Bd hml0 hP hK
  obtain ⟨rfl, hZ, hh, hC0⟩ := hP
  have hx := Bd.exec
  have hby := Bd.bytes
  have hlk : meth.locks = false := BodyLoose.notSynchronized Bd
  have hret := Bd.returns
  have hml : c.maxLocals = 2 := hml0
  have hown : s.vm.findClass "com/example/postil/postil/server/HeaderFields" = some m.cls := findClass_of_methodNamed Bd.named
  have hnm := (name_of_methodNamed Bd.named Bd.method).1
  have X0 : Stand p l e RMrmMt (s.setVm s.vm) m #[(.ref a1)] below meth c s₁ [] 0 0 := Stand.of_body Bd
  have e0 : s₁.heap = h0 := by rw [← hh, Bd.state]; rfl
  have N0 := Fr.nil Z.heap.size
  have hZ : Z.Warmed39 (s.setVm s.vm).vm := hZ
  have hS0 : s.Since s.vm h0.size := (State.WarmedH.refl s).since _
  have hk0 : h0.size ≤ h0.size := Nat.le_refl _
  have HR0 : CHr Z EL s.vm h0 s.vm h0 := CHr.refl hC0
  have hwS : ∀ d ∈ Bundle.stringAtoms, d.before a0 Z = true := fun d hd => hw d (own_strAtoms d hd)
  show OEnd p e below (GW s Z EL (QrmMt Z zc fm rt bl lg lv lk ci a1 cs h0) RMrmMt.cells RMrmMt.slots) _
  refine OEnd.of (fun tq kq => castTop (ef_rmMt m a1) kq) ?_
  have hl4 : cs.length ≤ 4000 := Nat.le_trans hl (by decide)
  have Ea := Ss.1
  refine OEnd.of (fun tq kq => XS.aloadN X0.here hx rfl (hb hby d8_0) rfl rfl kq) ?_
  show OEnd p e below _ (s₁.setTop (mkF m 1 #[.val (.ref a1), .unset] [(.ref a1)]))
  refine OEnd.of (fun tq kq => XS.bipush X0.here hx rfl (hb hby d8_1) kq) ?_
  show OEnd p e below _ (s₁.setTop (mkF m 3 #[.val (.ref a1), .unset] [(.int (59 : Int32)), (.ref a1)]))
  obtain ⟨cq286, kq286, q286a, q286b, q286c⟩ := isOf hZ e0 Ea
  obtain ⟨_, _, ⟨T286, L286, k286, n286⟩, -, X286, ⟨Lc286, hQ286, l286, y286, z286⟩, st286⟩ := X0.virtualBack hx (y := (⟨"java/lang/String", "indexOf", "(I)I"⟩ : MethodName)) (z := (⟨"java/lang/String", "indexOf", "(I)I"⟩ : MethodName)) hown (mvT hZ (hw _ (List.mem_of_getElem? (i := 38) rfl))) (mvT hZ (hw _ (List.mem_of_getElem? (i := 39) rfl))) (notFace_of_selects (args := #[]) (mvT hZ (hw _ (List.mem_of_getElem? (i := 41) rfl)))) (mvT hZ (hw _ (List.mem_of_getElem? (i := 41) rfl))) (mvT hZ (hw _ (List.mem_of_getElem? (i := 40) rfl))) (by decide) (backOf (W := 0) (rmIx1 l Z a0 hw zc fm rt bl lg lv lk ci S_CS hzc S_SF h_fm S_RT E_rt F_bl E_bl F_lg E_lg F_lv A_lv S_CI E_ci [] a1 cs (59 : Int32) h0 O0 Ss hl ⟨by decide, by decide⟩) hZ (hw _ (List.mem_of_getElem? (i := 42) rfl)) (hw _ (List.mem_of_getElem? (i := 7) rfl)) (by decide) (by decide)) q286a q286c (g := (mkF m 3 #[.val (.ref a1), .unset] [(.int (59 : Int32)), (.ref a1)])) rfl (by rw [hml]; rfl) (Steps.refl _) (argsL := [(.int (59 : Int32))]) (rest := []) (lenOf pd_28I29I rfl) rfl (by show 2 * 0 + _ ≤ _; exact Nat.le_of_eq rfl) (hb hby d8_3) (fun _ _ => ⟨rfl, e0, (by decide : 0 + 0 ≤ _), (by decide : 0 + 0 ≤ _)⟩)
  dsimp only [Pt.U, Pt.locs, Pt.cells, Pt.slots] at X286 l286 y286 z286 st286 hQ286
  subst l286 y286 z286
  obtain ⟨r_287, rfl, Nq286, e286, hr_288⟩ := hQ286
  have N289 := Fr.app N0 Nq286
  refine OEnd.of (fun tq kq => st286.trans kq) ?_
  show OEnd p e below _ (T286.setTop (mkF m 6 #[.val (.ref a1), .unset] [(.int r_287)]))
  refine OEnd.of (fun tq kq => XS.istoreN X286.here hx rfl (hb hby d8_6) rfl (l' := #[.val (.ref a1), .val (.int r_287)]) rfl kq) ?_
  show OEnd p e below _ (T286.setTop (mkF m 7 #[.val (.ref a1), .val (.int r_287)] []))
  refine OEnd.of (fun tq kq => XS.iloadN X286.here hx rfl (hb hby d8_7) rfl kq) ?_
  show OEnd p e below _ (T286.setTop (mkF m 8 #[.val (.ref a1), .val (.int r_287)] [(.int r_287)]))
  have J290 : ∀ (vm290 : Vm) (T290 : State) (h290 : Heap) (Lo290 : List Loc) (ri : Int32) (ra : Addr) (pp : Nat), Stand p l e RMrmMt (s.setVm vm290) m #[(.ref a1)] below meth c T290 Lo290 2 12 → T290.heap = h290 → Fr Z.heap.size Lo290 → Keep h0 h290 [] → (∃ k0, s.Since vm290 k0 ∧ k0 ≤ h290.size) → Z.Warmed39 (s.setVm vm290).vm → (s.setVm vm290).vm.findClass "com/example/postil/postil/server/HeaderFields" = some m.cls → CHr Z EL s.vm h0 vm290 h290 → IsStr Z h290 ra (cs.take pp) → (own_Sc cs 59 pp) → OEnd p e below (GW s Z EL (QrmMt Z zc fm rt bl lg lv lk ci a1 cs h0) RMrmMt.cells RMrmMt.slots) (T290.setTop (mkF m 21 #[.val (.ref a1), .val (.int ri)] [(.ref ra)])) := by
    rintro vm290 T290 h290 Lo290 ri ra pp X290 e290 N290 Kj290 ⟨kk290, hS290, hk290⟩ hZ290 hown290 HR290 Sj hSc
    show OEnd p e below _ (T290.setTop (mkF m 21 #[.val (.ref a1), .val (.int ri)] [(.ref ra)]))
    have hpl : (cs.take pp).length ≤ 8 := Nat.le_trans (List.length_take_le' _ _) hl
    have Er := Sj.1
    have K292 : Keep h0 h290 [] := ((Keep.refl h0 []).trans Kj290 all0)
    have O293 : Ext Z.heap h290 := own_extKeep O0 K292 all0
    obtain ⟨cq291, kq291, q291a, q291b, q291c⟩ := isOf hZ290 e290 Er
    obtain ⟨_, vq291, ⟨T291, L291, k291, n291⟩, -, X291, S291, G291, ⟨Lc291, hQ291, l291, y291, z291, C291⟩, st291⟩ := X290.virtualBackS hx (y := (⟨"java/lang/String", "trim", "()Ljava/lang/String;"⟩ : MethodName)) (z := (⟨"java/lang/String", "trim", "()Ljava/lang/String;"⟩ : MethodName)) hown290 (mvT hZ290 (hw _ (List.mem_of_getElem? (i := 99) rfl))) (mvT hZ290 (hw _ (List.mem_of_getElem? (i := 100) rfl))) (notFace_of_selects (args := #[]) (mvT hZ290 (hw _ (List.mem_of_getElem? (i := 102) rfl)))) (mvT hZ290 (hw _ (List.mem_of_getElem? (i := 102) rfl))) (mvT hZ290 (hw _ (List.mem_of_getElem? (i := 101) rfl))) (by decide) (backOfSH (W := 0) (rmTrim l Z a0 hw zc fm rt bl lg lv lk ci S_CS hzc S_SF h_fm S_RT E_rt F_bl E_bl F_lg E_lg F_lv A_lv S_CI E_ci hEL [] ra (cs.take pp) h290 O293 Sj hpl) hZ290 (hw _ (List.mem_of_getElem? (i := 103) rfl)) (hw _ (List.mem_of_getElem? (i := 7) rfl)) (by decide) (by decide) hEL HR290.1) q291a q291c (g := (mkF m 21 #[.val (.ref a1), .val (.int ri)] [(.ref ra)])) rfl (by rw [hml]; rfl) (Steps.refl _) (argsL := []) (rest := []) (lenOf pd_2829Ljava2flang2fString3b rfl) rfl (by show 2 * 0 + _ ≤ _; exact Nat.le_of_eq rfl) (hb hby d8_21) (fun _ _ => ⟨rfl, e290, (by decide : 2 + 2 ≤ _), (by decide : 12 + 12 ≤ _)⟩)
    dsimp only [Pt.U, Pt.locs, Pt.cells, Pt.slots] at X291 l291 y291 z291 st291 hQ291 S291 G291 C291
    subst l291 y291 z291
    obtain ⟨h291, e291⟩ : ∃ z, T291.heap = z := ⟨_, rfl⟩
    rw [e291] at hQ291 C291
    obtain ⟨ra_294, lf_295, rg_296, rfl, Nq291, Kq291, htr_297, S_298⟩ := hQ291
    have N299 := Fr.app N290 Nq291
    obtain ⟨X291, S291, hZ291, hown291⟩ := rebS hS290 (by rw [e290]; exact hk290) X291 S291 G291 hZ290 hown290
    rw [e291] at S291
    have hk291 : h291.size ≤ h291.size := Nat.le_refl _
    have CR300 : CHr Z EL vm290 h290 T291.vm h291 := C291
    have HR301 : CHr Z EL s.vm h0 T291.vm h291 := HR290.trans CR300
    refine OEnd.of (fun tq kq => st291.trans kq) ?_
    show OEnd p e below _ (T291.setTop (mkF m 24 #[.val (.ref a1), .val (.int ri)] [(.ref ra_294)]))
    have K303 : Keep h290 h291 [] := ((Keep.refl h290 []).trans Kq291 all0)
    have O304 : Ext Z.heap h291 := own_extKeep O293 K303 all0
    obtain ⟨T302, X302, e302, st302⟩ := getS2 X291 hx hZ291 hown291 (host := "") (Or.inl (hw _ (List.mem_of_getElem? (i := 107) rfl))) Via.refl e291 (Sta.ext O304 S_RT) (g := (mkF m 24 #[.val (.ref a1), .val (.int ri)] [(.ref ra_294)])) rfl (hb hby d8_24)
    refine OEnd.of st302 ?_
    show OEnd p e below _ (T302.setTop (mkF m 27 #[.val (.ref a1), .val (.int ri)] [(.ref rt), (.ref ra_294)]))
    have hdl : (((cs.take pp).drop lf_295).take (rg_296 - lf_295)).length ≤ 8 := by have := hpl; simp only [List.length_take, List.length_drop] at this ⊢; omega
    have Er2 := (S_298).1
    obtain ⟨cq305, kq305, q305a, q305b, q305c⟩ := isOf hZ291 e302 Er2
    obtain ⟨_, vq305, ⟨T305, L305, k305, n305⟩, -, X305, S305, G305, ⟨Lc305, hQ305, l305, y305, z305, C305⟩, st305⟩ := X302.virtualBackS hx (y := (⟨"java/lang/String", "toLowerCase", "(Ljava/util/Locale;)Ljava/lang/String;"⟩ : MethodName)) (z := (⟨"java/lang/String", "toLowerCase", "(Ljava/util/Locale;)Ljava/lang/String;"⟩ : MethodName)) hown291 (mvT hZ291 (hw _ (List.mem_of_getElem? (i := 109) rfl))) (mvT hZ291 (hw _ (List.mem_of_getElem? (i := 110) rfl))) (notFace_of_selects (args := #[]) (mvT hZ291 (hw _ (List.mem_of_getElem? (i := 112) rfl)))) (mvT hZ291 (hw _ (List.mem_of_getElem? (i := 112) rfl))) (mvT hZ291 (hw _ (List.mem_of_getElem? (i := 111) rfl))) (by decide) (backOfSH (W := 0) (rmLow l Z a0 hw zc fm rt bl lg lv lk ci S_CS hzc S_SF h_fm S_RT E_rt F_bl E_bl F_lg E_lg F_lv A_lv S_CI E_ci hEL [] ra_294 (((cs.take pp).drop lf_295).take (rg_296 - lf_295)) h291 O304 S_298 hdl) hZ291 (hw _ (List.mem_of_getElem? (i := 113) rfl)) (hw _ (List.mem_of_getElem? (i := 7) rfl)) (by decide) (by decide) hEL HR301.1) q305a q305c (g := (mkF m 27 #[.val (.ref a1), .val (.int ri)] [(.ref rt), (.ref ra_294)])) rfl (by rw [hml]; rfl) (Steps.refl _) (argsL := [(.ref rt)]) (rest := []) (lenOf pd_28Ljava2futil2fLocale3b29Ljava2flang2fString3b rfl) rfl (by show 2 * 0 + _ ≤ _; exact Nat.le_of_eq rfl) (hb hby d8_27) (fun _ _ => ⟨rfl, e302, (by decide : 4 + 8 ≤ _), (by decide : 24 + 48 ≤ _)⟩)
    dsimp only [Pt.U, Pt.locs, Pt.cells, Pt.slots] at X305 l305 y305 z305 st305 hQ305 S305 G305 C305
    subst l305 y305 z305
    obtain ⟨h305, e305⟩ : ∃ z, T305.heap = z := ⟨_, rfl⟩
    rw [e305] at hQ305 C305
    obtain ⟨r_306, rfl, Nq305, Kq305, S_307⟩ := hQ305
    have N308 := Fr.app N299 Nq305
    obtain ⟨X305, S305, hZ305, hown305⟩ := rebS S291 (by rw [e302]; exact hk291) X305 S305 G305 hZ291 hown291
    rw [e305] at S305
    have hk305 : h305.size ≤ h305.size := Nat.le_refl _
    have CR309 : CHr Z EL T291.vm h291 T305.vm h305 := C305
    have HR310 : CHr Z EL s.vm h0 T305.vm h305 := HR301.trans CR309
    refine OEnd.of (fun tq kq => st305.trans kq) ?_
    show OEnd p e below _ (T305.setTop (mkF m 30 #[.val (.ref a1), .val (.int ri)] [(.ref r_306)]))
    have K311 : Keep h0 h305 [] := ((K292.trans Kq291 all0).trans Kq305 all0)
    exact OEnd.retAW X305 hx hlk e305 hh S305 hk305 hEL hZ305 HR310 hret rfl rfl (hb hby d8_30) ⟨r_306, pp, lf_295, rg_296, rfl, N308, K311, hSc, htr_297, S_307⟩ (by decide) (by decide)
  by_cases hc312 : r_287 < (0 : Int32)
  · refine OEnd.of (fun tq kq => XS.ifNo X286.here hx rfl (hb hby d8_8) rfl ((if0 _ _).trans (tlt hc312).2.1) kq) ?_
    show OEnd p e below _ (T286.setTop (mkF m 11 #[.val (.ref a1), .val (.int r_287)] []))
    refine OEnd.of (fun tq kq => XS.aloadN X286.here hx rfl (hb hby d8_11) rfl rfl kq) ?_
    show OEnd p e below _ (T286.setTop (mkF m 12 #[.val (.ref a1), .val (.int r_287)] [(.ref a1)]))
    refine OEnd.of (fun tq kq => XS.goto X286.here hx rfl (pc0 := 12) (pc' := 21) rfl (hb hby d8_12) (by decide) (by decide) kq) ?_
    show OEnd p e below _ (T286.setTop (mkF m 21 #[.val (.ref a1), .val (.int r_287)] [(.ref a1)]))
    have Sj0 : IsStr Z h0 a1 (cs.take cs.length) := by rw [List.take_length]; exact Ss
    exact J290 _ T286 h0 _ r_287 a1 cs.length (X286.mono (by decide) (by decide)) e286 N289 (Keep.refl h0 []) ⟨_, hS0, hk0⟩ hZ hown HR0 Sj0 (own_IxNeg hl4 hr_288 hc312)
  · refine OEnd.of (fun tq kq => XS.ifYes X286.here hx rfl (pc0 := 8) (pc' := 15) rfl (hb hby d8_8) rfl ((if0 _ _).trans (flt hc312).2.1) (by decide) (by decide) kq) ?_
    show OEnd p e below _ (T286.setTop (mkF m 15 #[.val (.ref a1), .val (.int r_287)] []))
    obtain ⟨k, hk1, hk2, hk3⟩ := own_IxPos hr_288 hc312
    refine OEnd.of (fun tq kq => XS.aloadN X286.here hx rfl (hb hby d8_15) rfl rfl kq) ?_
    show OEnd p e below _ (T286.setTop (mkF m 16 #[.val (.ref a1), .val (.int r_287)] [(.ref a1)]))
    refine OEnd.of (fun tq kq => XS.iconst X286.here hx rfl (hb hby d8_16) kq) ?_
    show OEnd p e below _ (T286.setTop (mkF m 17 #[.val (.ref a1), .val (.int r_287)] [(.int (0 : Int32)), (.ref a1)]))
    refine OEnd.of (fun tq kq => XS.iloadN X286.here hx rfl (hb hby d8_17) rfl kq) ?_
    show OEnd p e below _ (T286.setTop (mkF m 18 #[.val (.ref a1), .val (.int r_287)] [(.int r_287), (.int (0 : Int32)), (.ref a1)]))
    rw [show r_287 = (Int32.ofNat k) from hk3]
    show OEnd p e below _ (T286.setTop (mkF m 18 #[.val (.ref a1), .val (.int (Int32.ofNat k))] [(.int (Int32.ofNat k)), (.int (0 : Int32)), (.ref a1)]))
    obtain ⟨cq313, kq313, q313a, q313b, q313c⟩ := isOf hZ e286 Ea
    obtain ⟨_, vq313, ⟨T313, L313, k313, n313⟩, -, X313, S313, G313, ⟨Lc313, hQ313, l313, y313, z313, C313⟩, st313⟩ := X286.virtualBackS hx (y := (⟨"java/lang/String", "substring", "(II)Ljava/lang/String;"⟩ : MethodName)) (z := (⟨"java/lang/String", "substring", "(II)Ljava/lang/String;"⟩ : MethodName)) hown (mvT hZ (hw _ (List.mem_of_getElem? (i := 80) rfl))) (mvT hZ (hw _ (List.mem_of_getElem? (i := 81) rfl))) (notFace_of_selects (args := #[]) (mvT hZ (hw _ (List.mem_of_getElem? (i := 83) rfl)))) (mvT hZ (hw _ (List.mem_of_getElem? (i := 83) rfl))) (mvT hZ (hw _ (List.mem_of_getElem? (i := 82) rfl))) (by decide) (backOfSH (W := 0) (rmSub l Z a0 hw zc fm rt bl lg lv lk ci S_CS hzc S_SF h_fm S_RT E_rt F_bl E_bl F_lg E_lg F_lv A_lv S_CI E_ci hEL [] a1 cs 0 k h0 O0 Ss hl (Nat.zero_le _) hk1) hZ (hw _ (List.mem_of_getElem? (i := 84) rfl)) (hw _ (List.mem_of_getElem? (i := 7) rfl)) (by decide) (by decide) hEL HR0.1) q313a q313c (g := (mkF m 18 #[.val (.ref a1), .val (.int (Int32.ofNat k))] [(.int (Int32.ofNat k)), (.int (0 : Int32)), (.ref a1)])) rfl (by rw [hml]; rfl) (Steps.refl _) (argsL := [(.int (0 : Int32)), (.int (Int32.ofNat k))]) (rest := []) (lenOf pd_28II29Ljava2flang2fString3b rfl) rfl (by show 2 * 0 + _ ≤ _; exact Nat.le_of_eq rfl) (hb hby d8_18) (fun _ _ => ⟨rfl, e286, (by decide : 0 + 2 ≤ _), (by decide : 0 + 12 ≤ _)⟩)
    dsimp only [Pt.U, Pt.locs, Pt.cells, Pt.slots] at X313 l313 y313 z313 st313 hQ313 S313 G313 C313
    subst l313 y313 z313
    obtain ⟨h313, e313⟩ : ∃ z, T313.heap = z := ⟨_, rfl⟩
    rw [e313] at hQ313 C313
    obtain ⟨r_314, rfl, Nq313, Kq313, S_315⟩ := hQ313
    have N316 := Fr.app N289 Nq313
    obtain ⟨X313, S313, hZ313, hown313⟩ := rebS hS0 (by rw [e286]; exact hk0) X313 S313 G313 hZ hown
    rw [e313] at S313
    have hk313 : h313.size ≤ h313.size := Nat.le_refl _
    have CR317 : CHr Z EL s.vm h0 T313.vm h313 := C313
    have HR318 : CHr Z EL s.vm h0 T313.vm h313 := HR0.trans CR317
    refine OEnd.of (fun tq kq => st313.trans kq) ?_
    show OEnd p e below _ (T313.setTop (mkF m 21 #[.val (.ref a1), .val (.int (Int32.ofNat k))] [(.ref r_314)]))
    have Sj0 : IsStr Z h313 r_314 (cs.take k) := by simpa using S_315
    have K319 : Keep h0 h313 [] := ((Keep.refl h0 []).trans Kq313 all0)
    exact J290 _ T313 h313 _ (Int32.ofNat k) r_314 k X313 e313 N316 K319 ⟨_, S313, hk313⟩ hZ313 hown313 HR318 Sj0 hk2
theorem d1_0 : decode method_2_code 0 = .ok (.iload_n 0, 1) := by decide +kernel
theorem d1_1 : decode method_2_code 1 = .ok (.bipush 8, 2) := by decide +kernel
theorem d1_3 : decode method_2_code 3 = .ok (.iushr, 1) := by decide +kernel
theorem d1_4 : decode method_2_code 4 = .ok (.iconst 3, 1) := by decide +kernel
theorem d1_5 : decode method_2_code 5 = .ok (.iand, 1) := by decide +kernel
theorem d1_6 : decode method_2_code 6 = .ok (.istore_n 1, 1) := by decide +kernel
theorem d1_7 : decode method_2_code 7 = .ok (.iload_n 1, 1) := by decide +kernel
theorem d1_8 : decode method_2_code 8 = .ok (.ifCond .ne 6, 3) := by decide +kernel
theorem d1_11 : decode method_2_code 11 = .ok (.bipush 59, 2) := by decide +kernel
theorem d1_13 : decode method_2_code 13 = .ok (.ireturn, 1) := by decide +kernel
theorem d1_14 : decode method_2_code 14 = .ok (.iload_n 1, 1) := by decide +kernel
theorem d1_15 : decode method_2_code 15 = .ok (.iconst 1, 1) := by decide +kernel
theorem d1_16 : decode method_2_code 16 = .ok (.if_icmp .ne 6, 3) := by decide +kernel
theorem d1_19 : decode method_2_code 19 = .ok (.bipush 32, 2) := by decide +kernel
theorem d1_21 : decode method_2_code 21 = .ok (.ireturn, 1) := by decide +kernel
theorem d1_22 : decode method_2_code 22 = .ok (.iload_n 0, 1) := by decide +kernel
theorem d1_23 : decode method_2_code 23 = .ok (.sipush 255, 3) := by decide +kernel
theorem d1_26 : decode method_2_code 26 = .ok (.iand, 1) := by decide +kernel
theorem d1_27 : decode method_2_code 27 = .ok (.i2c, 1) := by decide +kernel
theorem d1_28 : decode method_2_code 28 = .ok (.ireturn, 1) := by decide +kernel
theorem pn_com_example_postil_postil_server_HeaderFieldsMediaTypePinLaw : plainName "com/example/postil/postil/server/HeaderFieldsMediaTypePinLaw" = true := by first | (simp [plainName, overriddenIn]; done) | decide +kernel
abbrev RMrmDraw : Room := { frames := 0, cells := 0, slots := 0, locals := 0 }
theorem ef_rmDraw (m : MethodId) (p1 : Int32) : entryFrame m #[(.int p1)] 2 = mkF m 0 #[.val (.int p1), .unset] [] := by first | (simp [entryFrame, mkF, argsToLocals, Value.category]; done) | rfl
def QrmDraw (Z : State) (zc : Int32) (fm : Value) (rt : Addr) (bl : Addr) (lg : Addr) (lv : Addr) (lk : ClassId) (ci : Addr) (p1 : Int32) (h0 : Heap) (v : Option Value) (h : Heap) (L : List Loc) : Prop := ∃ (ch : Int32), v = some (.int ch) ∧ Fr Z.heap.size L ∧ h = h0 ∧ (¬ ch < 0 ∧ ¬ (255 : Int32) < ch)
set_option maxRecDepth 65536 in
set_option maxHeartbeats 40000000 in
theorem rmDraw (l : Launch) (Z : State) (a0 : Array Value) (hw : ∀ d ∈ tables_1, d.before a0 Z = true) (zc : Int32) (fm : Value) (rt : Addr) (bl : Addr) (lg : Addr) (lv : Addr) (lk : ClassId) (ci : Addr) (S_CS : Sta Z Z.heap "java/lang/String" "COMPACT_STRINGS" "Z" (.int zc)) (hzc : ¬ zc = 0) (S_SF : Sta Z Z.heap "jdk/internal/util/Preconditions" "SIOOBE_FORMATTER" "Ljava/util/function/BiFunction;" fm) (h_fm : fm.isRef = true) (S_RT : Sta Z Z.heap "java/util/Locale" "ROOT" "Ljava/util/Locale;" (.ref rt)) (E_rt : Exa Z Z.heap rt "java/util/Locale") (F_bl : Fld Z Z.heap rt "java/util/Locale" "baseLocale" "Lsun/util/locale/BaseLocale;" (.ref bl)) (E_bl : Exa Z Z.heap bl "sun/util/locale/BaseLocale") (F_lg : Fld Z Z.heap bl "sun/util/locale/BaseLocale" "language" "Ljava/lang/String;" (.ref lg)) (E_lg : Exa Z Z.heap lg "java/lang/String") (F_lv : Fld Z Z.heap lg "java/lang/String" "value" "[B" (.ref lv)) (A_lv : Arv Z Z.heap lv lk .byte (0 : Int32) [] (.int (0 : Int32))) (S_CI : Sta Z Z.heap "java/lang/CharacterDataLatin1" "instance" "Ljava/lang/CharacterDataLatin1;" (.ref ci)) (E_ci : Exa Z Z.heap ci "java/lang/CharacterDataLatin1") (ws : List Jvm.Cond) (p1 : Int32) (h0 : Heap) (O0 : Ext Z.heap h0) :
    MetFree l (⟨"com/example/postil/postil/server/HeaderFieldsMediaTypePinLaw", "draw", "(I)C"⟩ : MethodName) (head1 (Jvm.Cond.code (⟨"com/example/postil/postil/server/HeaderFieldsMediaTypePinLaw", "draw", "(I)C"⟩ : MethodName) method_2_code 2 (some .char) :: ws) RMrmDraw) (fun a U => a = #[(.int p1)] ∧ Z.Warmed39 U.vm ∧ U.heap = h0) (fun _ _ _ _ _ => True) (fun _ U o U' => ∃ v L, o = .returned v ∧ QrmDraw Z zc fm rt bl lg lv lk ci p1 h0 v U'.heap L ∧ FrameEnd U o U' L RMrmDraw.cells RMrmDraw.slots) := by
  refine MetFree.of_bodySF (plainFor_of_name pn_com_example_postil_postil_server_HeaderFieldsMediaTypePinLaw) hisR ?_
  intro p e s m args below meth c s₁ Bd hml0 hP hK
  obtain ⟨rfl, hZ, hh⟩ := hP
  have hx := Bd.exec
  have hby := Bd.bytes
  have hlk : meth.locks = false := BodyLoose.notSynchronized Bd
  have hret := Bd.returns
  have hml : c.maxLocals = 2 := hml0
  have hown : s.vm.findClass "com/example/postil/postil/server/HeaderFieldsMediaTypePinLaw" = some m.cls := findClass_of_methodNamed Bd.named
  have hnm := (name_of_methodNamed Bd.named Bd.method).1
  have X0 : Stand p l e RMrmDraw s m #[(.int p1)] below meth c s₁ [] 0 0 := Stand.of_body Bd
  have e0 : s₁.heap = h0 := by rw [← hh, Bd.state]; rfl
  have N0 := Fr.nil Z.heap.size
  show OEnd p e below (GN s (QrmDraw Z zc fm rt bl lg lv lk ci p1 h0) RMrmDraw.cells RMrmDraw.slots) _
  refine OEnd.of (fun tq kq => castTop (ef_rmDraw m p1) kq) ?_
  refine OEnd.of (fun tq kq => XS.iloadN X0.here hx rfl (hb hby d1_0) rfl kq) ?_
  show OEnd p e below _ (s₁.setTop (mkF m 1 #[.val (.int p1), .unset] [(.int p1)]))
  refine OEnd.of (fun tq kq => XS.bipush X0.here hx rfl (hb hby d1_1) kq) ?_
  show OEnd p e below _ (s₁.setTop (mkF m 3 #[.val (.int p1), .unset] [(.int (8 : Int32)), (.int p1)]))
  refine OEnd.of (fun tq kq => XS.iushr X0.here hx rfl (hb hby d1_3) rfl kq) ?_
  show OEnd p e below _ (s₁.setTop (mkF m 4 #[.val (.int p1), .unset] [(.int ((p1.toUInt32 >>> ((8 : Int32) &&& 31).toUInt32).toInt32))]))
  refine OEnd.of (fun tq kq => XS.iconst X0.here hx rfl (hb hby d1_4) kq) ?_
  show OEnd p e below _ (s₁.setTop (mkF m 5 #[.val (.int p1), .unset] [(.int (3 : Int32)), (.int ((p1.toUInt32 >>> ((8 : Int32) &&& 31).toUInt32).toInt32))]))
  refine OEnd.of (fun tq kq => XS.iand X0.here hx rfl (hb hby d1_5) rfl kq) ?_
  show OEnd p e below _ (s₁.setTop (mkF m 6 #[.val (.int p1), .unset] [(.int (((p1.toUInt32 >>> ((8 : Int32) &&& 31).toUInt32).toInt32) &&& (3 : Int32)))]))
  refine OEnd.of (fun tq kq => XS.istoreN X0.here hx rfl (hb hby d1_6) rfl (l' := #[.val (.int p1), .val (.int (((p1.toUInt32 >>> ((8 : Int32) &&& 31).toUInt32).toInt32) &&& (3 : Int32)))]) rfl kq) ?_
  show OEnd p e below _ (s₁.setTop (mkF m 7 #[.val (.int p1), .val (.int (((p1.toUInt32 >>> ((8 : Int32) &&& 31).toUInt32).toInt32) &&& (3 : Int32)))] []))
  refine OEnd.of (fun tq kq => XS.iloadN X0.here hx rfl (hb hby d1_7) rfl kq) ?_
  show OEnd p e below _ (s₁.setTop (mkF m 8 #[.val (.int p1), .val (.int (((p1.toUInt32 >>> ((8 : Int32) &&& 31).toUInt32).toInt32) &&& (3 : Int32)))] [(.int (((p1.toUInt32 >>> ((8 : Int32) &&& 31).toUInt32).toInt32) &&& (3 : Int32)))]))
  generalize q_kk320321 : (((p1.toUInt32 >>> ((8 : Int32) &&& 31).toUInt32).toInt32) &&& (3 : Int32)) = kk320321
  by_cases hc322 : kk320321 = (0 : Int32)
  · refine OEnd.of (fun tq kq => XS.ifNo X0.here hx rfl (hb hby d1_8) rfl ((if0 _ _).trans (teq hc322).2) kq) ?_
    show OEnd p e below _ (s₁.setTop (mkF m 11 #[.val (.int p1), .val (.int kk320321)] []))
    refine OEnd.of (fun tq kq => XS.bipush X0.here hx rfl (hb hby d1_11) kq) ?_
    show OEnd p e below _ (s₁.setTop (mkF m 13 #[.val (.int p1), .val (.int kk320321)] [(.int (59 : Int32))]))
    exact OEnd.retN X0 hx hlk e0 (t := .char) hret (by simp) (hb hby d1_13) ⟨(59 : Int32), rfl, N0, rfl, ⟨by decide, by decide⟩⟩ (by decide) (by decide)
  · refine OEnd.of (fun tq kq => XS.ifYes X0.here hx rfl (pc0 := 8) (pc' := 14) rfl (hb hby d1_8) rfl ((if0 _ _).trans (feq hc322).2) (by decide) (by decide) kq) ?_
    show OEnd p e below _ (s₁.setTop (mkF m 14 #[.val (.int p1), .val (.int kk320321)] []))
    refine OEnd.of (fun tq kq => XS.iloadN X0.here hx rfl (hb hby d1_14) rfl kq) ?_
    show OEnd p e below _ (s₁.setTop (mkF m 15 #[.val (.int p1), .val (.int kk320321)] [(.int kk320321)]))
    refine OEnd.of (fun tq kq => XS.iconst X0.here hx rfl (hb hby d1_15) kq) ?_
    show OEnd p e below _ (s₁.setTop (mkF m 16 #[.val (.int p1), .val (.int kk320321)] [(.int (1 : Int32)), (.int kk320321)]))
    by_cases hc323 : kk320321 = (1 : Int32)
    · refine OEnd.of (fun tq kq => XS.icmpNo X0.here hx rfl (hb hby d1_16) rfl (teq hc323).2 kq) ?_
      show OEnd p e below _ (s₁.setTop (mkF m 19 #[.val (.int p1), .val (.int kk320321)] []))
      refine OEnd.of (fun tq kq => XS.bipush X0.here hx rfl (hb hby d1_19) kq) ?_
      show OEnd p e below _ (s₁.setTop (mkF m 21 #[.val (.int p1), .val (.int kk320321)] [(.int (32 : Int32))]))
      exact OEnd.retN X0 hx hlk e0 (t := .char) hret (by simp) (hb hby d1_21) ⟨(32 : Int32), rfl, N0, rfl, ⟨by decide, by decide⟩⟩ (by decide) (by decide)
    · refine OEnd.of (fun tq kq => XS.icmpYes X0.here hx rfl (pc0 := 16) (pc' := 22) rfl (hb hby d1_16) rfl (feq hc323).2 (by decide) (by decide) kq) ?_
      show OEnd p e below _ (s₁.setTop (mkF m 22 #[.val (.int p1), .val (.int kk320321)] []))
      refine OEnd.of (fun tq kq => XS.iloadN X0.here hx rfl (hb hby d1_22) rfl kq) ?_
      show OEnd p e below _ (s₁.setTop (mkF m 23 #[.val (.int p1), .val (.int kk320321)] [(.int p1)]))
      refine OEnd.of (fun tq kq => XS.sipush X0.here hx rfl (hb hby d1_23) kq) ?_
      show OEnd p e below _ (s₁.setTop (mkF m 26 #[.val (.int p1), .val (.int kk320321)] [(.int (255 : Int32)), (.int p1)]))
      refine OEnd.of (fun tq kq => XS.iand X0.here hx rfl (hb hby d1_26) rfl kq) ?_
      show OEnd p e below _ (s₁.setTop (mkF m 27 #[.val (.int p1), .val (.int kk320321)] [(.int (p1 &&& (255 : Int32)))]))
      refine OEnd.of (fun tq kq => XS.i2c X0.here hx rfl (hb hby d1_27) rfl kq) ?_
      show OEnd p e below _ (s₁.setTop (mkF m 28 #[.val (.int p1), .val (.int kk320321)] [(.int ((p1 &&& (255 : Int32)).toUInt32.toUInt16.toUInt32.toInt32))]))
      generalize q_ch324 : ((p1 &&& (255 : Int32)).toUInt32.toUInt16.toUInt32.toInt32) = ch324
      have hch_ch324 : ¬ ch324 < 0 ∧ ¬ (255 : Int32) < ch324 := own_ch q_ch324
      exact OEnd.retN X0 hx hlk e0 (t := .char) hret (by simp) (hb hby d1_28) ⟨ch324, (congrArg (fun z => some (Value.int z)) (own_narC hch_ch324)), N0, rfl, hch_ch324⟩ (by decide) (by decide)
theorem d37_0 : decode method_3_code 0 = .ok (.iload_n 0, 1) := by decide +kernel
theorem d37_1 : decode method_3_code 1 = .ok (.bipush 65, 2) := by decide +kernel
theorem d37_3 : decode method_3_code 3 = .ok (.if_icmp .lt 15, 3) := by decide +kernel
theorem d37_6 : decode method_3_code 6 = .ok (.iload_n 0, 1) := by decide +kernel
theorem d37_7 : decode method_3_code 7 = .ok (.bipush 90, 2) := by decide +kernel
theorem d37_9 : decode method_3_code 9 = .ok (.if_icmp .gt 9, 3) := by decide +kernel
theorem d37_12 : decode method_3_code 12 = .ok (.iload_n 0, 1) := by decide +kernel
theorem d37_13 : decode method_3_code 13 = .ok (.bipush 32, 2) := by decide +kernel
theorem d37_15 : decode method_3_code 15 = .ok (.iadd, 1) := by decide +kernel
theorem d37_16 : decode method_3_code 16 = .ok (.i2c, 1) := by decide +kernel
theorem d37_17 : decode method_3_code 17 = .ok (.ireturn, 1) := by decide +kernel
theorem d37_18 : decode method_3_code 18 = .ok (.iload_n 0, 1) := by decide +kernel
theorem d37_19 : decode method_3_code 19 = .ok (.sipush 192, 3) := by decide +kernel
theorem d37_22 : decode method_3_code 22 = .ok (.if_icmp .lt 23, 3) := by decide +kernel
theorem d37_25 : decode method_3_code 25 = .ok (.iload_n 0, 1) := by decide +kernel
theorem d37_26 : decode method_3_code 26 = .ok (.sipush 222, 3) := by decide +kernel
theorem d37_29 : decode method_3_code 29 = .ok (.if_icmp .gt 16, 3) := by decide +kernel
theorem d37_32 : decode method_3_code 32 = .ok (.iload_n 0, 1) := by decide +kernel
theorem d37_33 : decode method_3_code 33 = .ok (.sipush 215, 3) := by decide +kernel
theorem d37_36 : decode method_3_code 36 = .ok (.if_icmp .eq 9, 3) := by decide +kernel
theorem d37_39 : decode method_3_code 39 = .ok (.iload_n 0, 1) := by decide +kernel
theorem d37_40 : decode method_3_code 40 = .ok (.bipush 32, 2) := by decide +kernel
theorem d37_42 : decode method_3_code 42 = .ok (.iadd, 1) := by decide +kernel
theorem d37_43 : decode method_3_code 43 = .ok (.i2c, 1) := by decide +kernel
theorem d37_44 : decode method_3_code 44 = .ok (.ireturn, 1) := by decide +kernel
theorem d37_45 : decode method_3_code 45 = .ok (.iload_n 0, 1) := by decide +kernel
theorem d37_46 : decode method_3_code 46 = .ok (.ireturn, 1) := by decide +kernel
abbrev RMrmLower : Room := { frames := 0, cells := 0, slots := 0, locals := 0 }
theorem ef_rmLower (m : MethodId) (p1 : Int32) : entryFrame m #[(.int p1)] 1 = mkF m 0 #[.val (.int p1)] [] := by first | (simp [entryFrame, mkF, argsToLocals, Value.category]; done) | rfl
def QrmLower (Z : State) (zc : Int32) (fm : Value) (rt : Addr) (bl : Addr) (lg : Addr) (lv : Addr) (lk : ClassId) (ci : Addr) (p1 : Int32) (h0 : Heap) (v : Option Value) (h : Heap) (L : List Loc) : Prop := v = some (.int (own_low p1)) ∧ Fr Z.heap.size L ∧ h = h0
set_option maxRecDepth 65536 in
set_option maxHeartbeats 40000000 in
theorem rmLower (l : Launch) (Z : State) (a0 : Array Value) (hw : ∀ d ∈ tables_1, d.before a0 Z = true) (zc : Int32) (fm : Value) (rt : Addr) (bl : Addr) (lg : Addr) (lv : Addr) (lk : ClassId) (ci : Addr) (S_CS : Sta Z Z.heap "java/lang/String" "COMPACT_STRINGS" "Z" (.int zc)) (hzc : ¬ zc = 0) (S_SF : Sta Z Z.heap "jdk/internal/util/Preconditions" "SIOOBE_FORMATTER" "Ljava/util/function/BiFunction;" fm) (h_fm : fm.isRef = true) (S_RT : Sta Z Z.heap "java/util/Locale" "ROOT" "Ljava/util/Locale;" (.ref rt)) (E_rt : Exa Z Z.heap rt "java/util/Locale") (F_bl : Fld Z Z.heap rt "java/util/Locale" "baseLocale" "Lsun/util/locale/BaseLocale;" (.ref bl)) (E_bl : Exa Z Z.heap bl "sun/util/locale/BaseLocale") (F_lg : Fld Z Z.heap bl "sun/util/locale/BaseLocale" "language" "Ljava/lang/String;" (.ref lg)) (E_lg : Exa Z Z.heap lg "java/lang/String") (F_lv : Fld Z Z.heap lg "java/lang/String" "value" "[B" (.ref lv)) (A_lv : Arv Z Z.heap lv lk .byte (0 : Int32) [] (.int (0 : Int32))) (S_CI : Sta Z Z.heap "java/lang/CharacterDataLatin1" "instance" "Ljava/lang/CharacterDataLatin1;" (.ref ci)) (E_ci : Exa Z Z.heap ci "java/lang/CharacterDataLatin1") (ws : List Jvm.Cond) (p1 : Int32) (h0 : Heap) (O0 : Ext Z.heap h0) (hp : ¬ p1 < 0 ∧ ¬ (255 : Int32) < p1) :
    MetFree l (⟨"com/example/postil/postil/server/HeaderFieldsMediaTypePinLaw", "lower", "(C)C"⟩ : MethodName) (head1 (Jvm.Cond.code (⟨"com/example/postil/postil/server/HeaderFieldsMediaTypePinLaw", "lower", "(C)C"⟩ : MethodName) method_3_code 1 (some .char) :: ws) RMrmLower) (fun a U => a = #[(.int p1)] ∧ Z.Warmed39 U.vm ∧ U.heap = h0) (fun _ _ _ _ _ => True) (fun _ U o U' => ∃ v L, o = .returned v ∧ QrmLower Z zc fm rt bl lg lv lk ci p1 h0 v U'.heap L ∧ FrameEnd U o U' L RMrmLower.cells RMrmLower.slots) := by
  refine MetFree.of_bodySF (plainFor_of_name pn_com_example_postil_postil_server_HeaderFieldsMediaTypePinLaw) hisR ?_
  intro p e s m args below meth c s₁ Bd hml0 hP hK
  obtain ⟨rfl, hZ, hh⟩ := hP
  have hx := Bd.exec
  have hby := Bd.bytes
  have hlk : meth.locks = false := BodyLoose.notSynchronized Bd
  have hret := Bd.returns
  have hml : c.maxLocals = 1 := hml0
  have hown : s.vm.findClass "com/example/postil/postil/server/HeaderFieldsMediaTypePinLaw" = some m.cls := findClass_of_methodNamed Bd.named
  have hnm := (name_of_methodNamed Bd.named Bd.method).1
  have X0 : Stand p l e RMrmLower s m #[(.int p1)] below meth c s₁ [] 0 0 := Stand.of_body Bd
  have e0 : s₁.heap = h0 := by rw [← hh, Bd.state]; rfl
  have N0 := Fr.nil Z.heap.size
  show OEnd p e below (GN s (QrmLower Z zc fm rt bl lg lv lk ci p1 h0) RMrmLower.cells RMrmLower.slots) _
  refine OEnd.of (fun tq kq => castTop (ef_rmLower m p1) kq) ?_
  refine OEnd.of (fun tq kq => XS.iloadN X0.here hx rfl (hb hby d37_0) rfl kq) ?_
  show OEnd p e below _ (s₁.setTop (mkF m 1 #[.val (.int p1)] [(.int p1)]))
  refine OEnd.of (fun tq kq => XS.bipush X0.here hx rfl (hb hby d37_1) kq) ?_
  show OEnd p e below _ (s₁.setTop (mkF m 3 #[.val (.int p1)] [(.int (65 : Int32)), (.int p1)]))
  have J325 : ∀ (T325 : State) (Lo325 : List Loc), Stand p l e RMrmLower s m #[(.int p1)] below meth c T325 Lo325 0 0 → T325.heap = h0 → Fr Z.heap.size Lo325 → ((p1 < 65 ∨ (90 : Int32) < p1) ∧ (p1 < 192 ∨ (222 : Int32) < p1 ∨ p1 = 215)) → OEnd p e below (GN s (QrmLower Z zc fm rt bl lg lv lk ci p1 h0) RMrmLower.cells RMrmLower.slots) (T325.setTop (mkF m 45 #[.val (.int p1)] [])) := by
    rintro T325 Lo325 X325 e325 N325 h45
    show OEnd p e below _ (T325.setTop (mkF m 45 #[.val (.int p1)] []))
    refine OEnd.of (fun tq kq => XS.iloadN X325.here hx rfl (hb hby d37_45) rfl kq) ?_
    show OEnd p e below _ (T325.setTop (mkF m 46 #[.val (.int p1)] [(.int p1)]))
    exact OEnd.retN X325 hx hlk e325 (t := .char) hret (by simp) (hb hby d37_46) ⟨(congrArg (fun z => some (Value.int z)) (own_lwC hp h45.1 h45.2)), N325, rfl⟩ (by decide) (by decide)
  have J326 : ∀ (T326 : State) (Lo326 : List Loc), Stand p l e RMrmLower s m #[(.int p1)] below meth c T326 Lo326 0 0 → T326.heap = h0 → Fr Z.heap.size Lo326 → (p1 < 65 ∨ (90 : Int32) < p1) → OEnd p e below (GN s (QrmLower Z zc fm rt bl lg lv lk ci p1 h0) RMrmLower.cells RMrmLower.slots) (T326.setTop (mkF m 18 #[.val (.int p1)] [])) := by
    rintro T326 Lo326 X326 e326 N326 h18
    show OEnd p e below _ (T326.setTop (mkF m 18 #[.val (.int p1)] []))
    refine OEnd.of (fun tq kq => XS.iloadN X326.here hx rfl (hb hby d37_18) rfl kq) ?_
    show OEnd p e below _ (T326.setTop (mkF m 19 #[.val (.int p1)] [(.int p1)]))
    refine OEnd.of (fun tq kq => XS.sipush X326.here hx rfl (hb hby d37_19) kq) ?_
    show OEnd p e below _ (T326.setTop (mkF m 22 #[.val (.int p1)] [(.int (192 : Int32)), (.int p1)]))
    by_cases hc327 : p1 < (192 : Int32)
    · refine OEnd.of (fun tq kq => XS.icmpYes X326.here hx rfl (pc0 := 22) (pc' := 45) rfl (hb hby d37_22) rfl (tlt hc327).1 (by decide) (by decide) kq) ?_
      show OEnd p e below _ (T326.setTop (mkF m 45 #[.val (.int p1)] []))
      exact J325 T326 _ X326 e326 N326 ⟨h18, Or.inl hc327⟩
    · refine OEnd.of (fun tq kq => XS.icmpNo X326.here hx rfl (hb hby d37_22) rfl (flt hc327).1 kq) ?_
      show OEnd p e below _ (T326.setTop (mkF m 25 #[.val (.int p1)] []))
      refine OEnd.of (fun tq kq => XS.iloadN X326.here hx rfl (hb hby d37_25) rfl kq) ?_
      show OEnd p e below _ (T326.setTop (mkF m 26 #[.val (.int p1)] [(.int p1)]))
      refine OEnd.of (fun tq kq => XS.sipush X326.here hx rfl (hb hby d37_26) kq) ?_
      show OEnd p e below _ (T326.setTop (mkF m 29 #[.val (.int p1)] [(.int (222 : Int32)), (.int p1)]))
      by_cases hc328 : (222 : Int32) < p1
      · refine OEnd.of (fun tq kq => XS.icmpYes X326.here hx rfl (pc0 := 29) (pc' := 45) rfl (hb hby d37_29) rfl (tlt hc328).2.2.1 (by decide) (by decide) kq) ?_
        show OEnd p e below _ (T326.setTop (mkF m 45 #[.val (.int p1)] []))
        exact J325 T326 _ X326 e326 N326 ⟨h18, Or.inr (Or.inl hc328)⟩
      · refine OEnd.of (fun tq kq => XS.icmpNo X326.here hx rfl (hb hby d37_29) rfl (flt hc328).2.2.1 kq) ?_
        show OEnd p e below _ (T326.setTop (mkF m 32 #[.val (.int p1)] []))
        refine OEnd.of (fun tq kq => XS.iloadN X326.here hx rfl (hb hby d37_32) rfl kq) ?_
        show OEnd p e below _ (T326.setTop (mkF m 33 #[.val (.int p1)] [(.int p1)]))
        refine OEnd.of (fun tq kq => XS.sipush X326.here hx rfl (hb hby d37_33) kq) ?_
        show OEnd p e below _ (T326.setTop (mkF m 36 #[.val (.int p1)] [(.int (215 : Int32)), (.int p1)]))
        by_cases hc329 : p1 = (215 : Int32)
        · refine OEnd.of (fun tq kq => XS.icmpYes X326.here hx rfl (pc0 := 36) (pc' := 45) rfl (hb hby d37_36) rfl (teq hc329).1 (by decide) (by decide) kq) ?_
          show OEnd p e below _ (T326.setTop (mkF m 45 #[.val (.int p1)] []))
          exact J325 T326 _ X326 e326 N326 ⟨h18, Or.inr (Or.inr hc329)⟩
        · refine OEnd.of (fun tq kq => XS.icmpNo X326.here hx rfl (hb hby d37_36) rfl (feq hc329).1 kq) ?_
          show OEnd p e below _ (T326.setTop (mkF m 39 #[.val (.int p1)] []))
          refine OEnd.of (fun tq kq => XS.iloadN X326.here hx rfl (hb hby d37_39) rfl kq) ?_
          show OEnd p e below _ (T326.setTop (mkF m 40 #[.val (.int p1)] [(.int p1)]))
          refine OEnd.of (fun tq kq => XS.bipush X326.here hx rfl (hb hby d37_40) kq) ?_
          show OEnd p e below _ (T326.setTop (mkF m 42 #[.val (.int p1)] [(.int (32 : Int32)), (.int p1)]))
          refine OEnd.of (fun tq kq => XS.iadd X326.here hx rfl (hb hby d37_42) rfl kq) ?_
          show OEnd p e below _ (T326.setTop (mkF m 43 #[.val (.int p1)] [(.int (p1 + (32 : Int32)))]))
          refine OEnd.of (fun tq kq => XS.i2c X326.here hx rfl (hb hby d37_43) rfl kq) ?_
          show OEnd p e below _ (T326.setTop (mkF m 44 #[.val (.int p1)] [(.int ((p1 + (32 : Int32)).toUInt32.toUInt16.toUInt32.toInt32))]))
          exact OEnd.retN X326 hx hlk e326 (t := .char) hret (by simp) (hb hby d37_44) ⟨(congrArg (fun z => some (Value.int z)) (own_lwB hp hc327 hc328 hc329)), N326, rfl⟩ (by decide) (by decide)
  by_cases hc330 : p1 < (65 : Int32)
  · refine OEnd.of (fun tq kq => XS.icmpYes X0.here hx rfl (pc0 := 3) (pc' := 18) rfl (hb hby d37_3) rfl (tlt hc330).1 (by decide) (by decide) kq) ?_
    show OEnd p e below _ (s₁.setTop (mkF m 18 #[.val (.int p1)] []))
    exact J326 s₁ _ X0 e0 N0 (Or.inl hc330)
  · refine OEnd.of (fun tq kq => XS.icmpNo X0.here hx rfl (hb hby d37_3) rfl (flt hc330).1 kq) ?_
    show OEnd p e below _ (s₁.setTop (mkF m 6 #[.val (.int p1)] []))
    refine OEnd.of (fun tq kq => XS.iloadN X0.here hx rfl (hb hby d37_6) rfl kq) ?_
    show OEnd p e below _ (s₁.setTop (mkF m 7 #[.val (.int p1)] [(.int p1)]))
    refine OEnd.of (fun tq kq => XS.bipush X0.here hx rfl (hb hby d37_7) kq) ?_
    show OEnd p e below _ (s₁.setTop (mkF m 9 #[.val (.int p1)] [(.int (90 : Int32)), (.int p1)]))
    by_cases hc331 : (90 : Int32) < p1
    · refine OEnd.of (fun tq kq => XS.icmpYes X0.here hx rfl (pc0 := 9) (pc' := 18) rfl (hb hby d37_9) rfl (tlt hc331).2.2.1 (by decide) (by decide) kq) ?_
      show OEnd p e below _ (s₁.setTop (mkF m 18 #[.val (.int p1)] []))
      exact J326 s₁ _ X0 e0 N0 (Or.inr hc331)
    · refine OEnd.of (fun tq kq => XS.icmpNo X0.here hx rfl (hb hby d37_9) rfl (flt hc331).2.2.1 kq) ?_
      show OEnd p e below _ (s₁.setTop (mkF m 12 #[.val (.int p1)] []))
      refine OEnd.of (fun tq kq => XS.iloadN X0.here hx rfl (hb hby d37_12) rfl kq) ?_
      show OEnd p e below _ (s₁.setTop (mkF m 13 #[.val (.int p1)] [(.int p1)]))
      refine OEnd.of (fun tq kq => XS.bipush X0.here hx rfl (hb hby d37_13) kq) ?_
      show OEnd p e below _ (s₁.setTop (mkF m 15 #[.val (.int p1)] [(.int (32 : Int32)), (.int p1)]))
      refine OEnd.of (fun tq kq => XS.iadd X0.here hx rfl (hb hby d37_15) rfl kq) ?_
      show OEnd p e below _ (s₁.setTop (mkF m 16 #[.val (.int p1)] [(.int (p1 + (32 : Int32)))]))
      refine OEnd.of (fun tq kq => XS.i2c X0.here hx rfl (hb hby d37_16) rfl kq) ?_
      show OEnd p e below _ (s₁.setTop (mkF m 17 #[.val (.int p1)] [(.int ((p1 + (32 : Int32)).toUInt32.toUInt16.toUInt32.toInt32))]))
      exact OEnd.retN X0 hx hlk e0 (t := .char) hret (by simp) (hb hby d37_17) ⟨(congrArg (fun z => some (Value.int z)) (own_lwA hp hc330 hc331)), N0, rfl⟩ (by decide) (by decide)
theorem pd_28I29C : parseMethodDescriptor "(I)C" = some ⟨[.int], some .char⟩ := by decide +kernel
theorem pd_28C29C : parseMethodDescriptor "(C)C" = some ⟨[.char], some .char⟩ := by decide +kernel
theorem d27_0 : decode method_4_code 0 = .ok (.iload_n 1, 1) := by decide +kernel
theorem d27_1 : decode method_4_code 1 = .ok (.iload_n 2, 1) := by decide +kernel
theorem d27_2 : decode method_4_code 2 = .ok (.if_icmp .lt 5, 3) := by decide +kernel
theorem d27_5 : decode method_4_code 5 = .ok (.iconst 1, 1) := by decide +kernel
theorem d27_6 : decode method_4_code 6 = .ok (.ireturn, 1) := by decide +kernel
theorem d27_7 : decode method_4_code 7 = .ok (.aload_n 0, 1) := by decide +kernel
theorem d27_8 : decode method_4_code 8 = .ok (.iload_n 1, 1) := by decide +kernel
theorem d27_9 : decode method_4_code 9 = .ok (.invokevirtual 7, 3) := by decide +kernel
theorem d27_12 : decode method_4_code 12 = .ok (.aload_n 3, 1) := by decide +kernel
theorem d27_13 : decode method_4_code 13 = .ok (.iload 4, 2) := by decide +kernel
theorem d27_15 : decode method_4_code 15 = .ok (.iload_n 1, 1) := by decide +kernel
theorem d27_16 : decode method_4_code 16 = .ok (.iadd, 1) := by decide +kernel
theorem d27_17 : decode method_4_code 17 = .ok (.caload, 1) := by decide +kernel
theorem d27_18 : decode method_4_code 18 = .ok (.invokestatic 13, 3) := by decide +kernel
theorem d27_21 : decode method_4_code 21 = .ok (.if_icmp .ne 7, 3) := by decide +kernel
theorem d27_24 : decode method_4_code 24 = .ok (.iconst 1, 1) := by decide +kernel
theorem d27_25 : decode method_4_code 25 = .ok (.goto 4, 3) := by decide +kernel
theorem d27_29 : decode method_4_code 29 = .ok (.ireturn, 1) := by decide +kernel
abbrev RMrmAt : Room := { frames := 4, cells := 0, slots := 0, locals := 53 }
theorem ef_rmAt (m : MethodId) (a1 : Addr) (ii : Nat) (nn : Nat) (ta : Addr) (sn : Nat) : entryFrame m #[(.ref a1), (.int (Int32.ofNat ii)), (.int (Int32.ofNat nn)), (.ref ta), (.int (Int32.ofNat sn))] 5 = mkF m 0 #[.val (.ref a1), .val (.int (Int32.ofNat ii)), .val (.int (Int32.ofNat nn)), .val (.ref ta), .val (.int (Int32.ofNat sn))] [] := by first | (simp [entryFrame, mkF, argsToLocals, Value.category]; done) | rfl
def QrmAt (Z : State) (zc : Int32) (fm : Value) (rt : Addr) (bl : Addr) (lg : Addr) (lv : Addr) (lk : ClassId) (ci : Addr) (a1 : Addr) (ds : List Int32) (ii : Nat) (nn : Nat) (ta : Addr) (kk : ClassId) (cs : List Int32) (sn : Nat) (h0 : Heap) (v : Option Value) (h : Heap) (L : List Loc) : Prop := v = some (.int (1 : Int32)) ∧ Fr Z.heap.size L ∧ h = h0
set_option maxRecDepth 65536 in
set_option maxHeartbeats 40000000 in
theorem rmAt (l : Launch) (Z : State) (a0 : Array Value) (hw : ∀ d ∈ tables_1, d.before a0 Z = true) (zc : Int32) (fm : Value) (rt : Addr) (bl : Addr) (lg : Addr) (lv : Addr) (lk : ClassId) (ci : Addr) (S_CS : Sta Z Z.heap "java/lang/String" "COMPACT_STRINGS" "Z" (.int zc)) (hzc : ¬ zc = 0) (S_SF : Sta Z Z.heap "jdk/internal/util/Preconditions" "SIOOBE_FORMATTER" "Ljava/util/function/BiFunction;" fm) (h_fm : fm.isRef = true) (S_RT : Sta Z Z.heap "java/util/Locale" "ROOT" "Ljava/util/Locale;" (.ref rt)) (E_rt : Exa Z Z.heap rt "java/util/Locale") (F_bl : Fld Z Z.heap rt "java/util/Locale" "baseLocale" "Lsun/util/locale/BaseLocale;" (.ref bl)) (E_bl : Exa Z Z.heap bl "sun/util/locale/BaseLocale") (F_lg : Fld Z Z.heap bl "sun/util/locale/BaseLocale" "language" "Ljava/lang/String;" (.ref lg)) (E_lg : Exa Z Z.heap lg "java/lang/String") (F_lv : Fld Z Z.heap lg "java/lang/String" "value" "[B" (.ref lv)) (A_lv : Arv Z Z.heap lv lk .byte (0 : Int32) [] (.int (0 : Int32))) (S_CI : Sta Z Z.heap "java/lang/CharacterDataLatin1" "instance" "Ljava/lang/CharacterDataLatin1;" (.ref ci)) (E_ci : Exa Z Z.heap ci "java/lang/CharacterDataLatin1") (ws : List Jvm.Cond) (a1 : Addr) (ds : List Int32) (ii : Nat) (nn : Nat) (ta : Addr) (kk : ClassId) (cs : List Int32) (sn : Nat) (h0 : Heap) (O0 : Ext Z.heap h0) (Ss : IsStr Z h0 a1 ds) (At : Arv Z h0 ta kk .char (Int32.ofNat cs.length) (cs.map Value.int) (.int (0 : Int32))) (hl : cs.length ≤ 8) (hcs : ∀ c ∈ cs, ¬ c < 0 ∧ ¬ (255 : Int32) < c) (hii : ii ≤ 8) (hnn : nn ≤ 8) (hds : ds.length = nn) (heq : ii < nn → ds.getD ii 0 = own_low (cs.getD (sn + ii) 0) ∧ sn + ii < cs.length) :
    MetFree l (⟨"com/example/postil/postil/server/HeaderFieldsMediaTypePinLaw", "at", "(Ljava/lang/String;II[CI)Z"⟩ : MethodName) (head1 (Jvm.Cond.code (⟨"com/example/postil/postil/server/HeaderFieldsMediaTypePinLaw", "at", "(Ljava/lang/String;II[CI)Z"⟩ : MethodName) method_4_code 5 (some .boolean) :: ws) RMrmAt) (fun a U => a = #[(.ref a1), (.int (Int32.ofNat ii)), (.int (Int32.ofNat nn)), (.ref ta), (.int (Int32.ofNat sn))] ∧ Z.Warmed39 U.vm ∧ U.heap = h0) (fun _ _ _ _ _ => True) (fun _ U o U' => ∃ v L, o = .returned v ∧ QrmAt Z zc fm rt bl lg lv lk ci a1 ds ii nn ta kk cs sn h0 v U'.heap L ∧ FrameEnd U o U' L RMrmAt.cells RMrmAt.slots) := by
  refine MetFree.of_bodySF (plainFor_of_name pn_com_example_postil_postil_server_HeaderFieldsMediaTypePinLaw) hisR ?_
  intro p e s m args below meth c s₁ Bd hml0 hP hK
  obtain ⟨rfl, hZ, hh⟩ := hP
  have hx := Bd.exec
  have hby := Bd.bytes
  have hlk : meth.locks = false := BodyLoose.notSynchronized Bd
  have hret := Bd.returns
  have hml : c.maxLocals = 5 := hml0
  have hown : s.vm.findClass "com/example/postil/postil/server/HeaderFieldsMediaTypePinLaw" = some m.cls := findClass_of_methodNamed Bd.named
  have hnm := (name_of_methodNamed Bd.named Bd.method).1
  have X0 : Stand p l e RMrmAt s m #[(.ref a1), (.int (Int32.ofNat ii)), (.int (Int32.ofNat nn)), (.ref ta), (.int (Int32.ofNat sn))] below meth c s₁ [] 0 0 := Stand.of_body Bd
  have e0 : s₁.heap = h0 := by rw [← hh, Bd.state]; rfl
  have N0 := Fr.nil Z.heap.size
  show OEnd p e below (GN s (QrmAt Z zc fm rt bl lg lv lk ci a1 ds ii nn ta kk cs sn h0) RMrmAt.cells RMrmAt.slots) _
  refine OEnd.of (fun tq kq => castTop (ef_rmAt m a1 ii nn ta sn) kq) ?_
  have hl4 : cs.length ≤ 4000 := Nat.le_trans hl (by decide)
  have Ea := Ss.1
  refine OEnd.of (fun tq kq => XS.iloadN X0.here hx rfl (hb hby d27_0) rfl kq) ?_
  show OEnd p e below _ (s₁.setTop (mkF m 1 #[.val (.ref a1), .val (.int (Int32.ofNat ii)), .val (.int (Int32.ofNat nn)), .val (.ref ta), .val (.int (Int32.ofNat sn))] [(.int (Int32.ofNat ii))]))
  refine OEnd.of (fun tq kq => XS.iloadN X0.here hx rfl (hb hby d27_1) rfl kq) ?_
  show OEnd p e below _ (s₁.setTop (mkF m 2 #[.val (.ref a1), .val (.int (Int32.ofNat ii)), .val (.int (Int32.ofNat nn)), .val (.ref ta), .val (.int (Int32.ofNat sn))] [(.int (Int32.ofNat nn)), (.int (Int32.ofNat ii))]))
  by_cases hc332 : (Int32.ofNat ii) < (Int32.ofNat nn)
  · refine OEnd.of (fun tq kq => XS.icmpYes X0.here hx rfl (pc0 := 2) (pc' := 7) rfl (hb hby d27_2) rfl (tlt hc332).1 (by decide) (by decide) kq) ?_
    show OEnd p e below _ (s₁.setTop (mkF m 7 #[.val (.ref a1), .val (.int (Int32.ofNat ii)), .val (.int (Int32.ofNat nn)), .val (.ref ta), .val (.int (Int32.ofNat sn))] []))
    have hlt : ii < nn := (own_ltN (Nat.le_trans hii (by decide)) (Nat.le_trans hnn (by decide))).mp hc332
    obtain ⟨q1, q2⟩ := heq hlt
    refine OEnd.of (fun tq kq => XS.aloadN X0.here hx rfl (hb hby d27_7) rfl rfl kq) ?_
    show OEnd p e below _ (s₁.setTop (mkF m 8 #[.val (.ref a1), .val (.int (Int32.ofNat ii)), .val (.int (Int32.ofNat nn)), .val (.ref ta), .val (.int (Int32.ofNat sn))] [(.ref a1)]))
    refine OEnd.of (fun tq kq => XS.iloadN X0.here hx rfl (hb hby d27_8) rfl kq) ?_
    show OEnd p e below _ (s₁.setTop (mkF m 9 #[.val (.ref a1), .val (.int (Int32.ofNat ii)), .val (.int (Int32.ofNat nn)), .val (.ref ta), .val (.int (Int32.ofNat sn))] [(.int (Int32.ofNat ii)), (.ref a1)]))
    obtain ⟨cq333, kq333, q333a, q333b, q333c⟩ := isOf hZ e0 Ea
    obtain ⟨_, _, ⟨T333, L333, k333, n333⟩, -, X333, ⟨Lc333, hQ333, l333, y333, z333⟩, st333⟩ := X0.virtualBack hx (y := (⟨"java/lang/String", "charAt", "(I)C"⟩ : MethodName)) (z := (⟨"java/lang/String", "charAt", "(I)C"⟩ : MethodName)) hown (mvT hZ (hw _ (List.mem_of_getElem? (i := 148) rfl))) (mvT hZ (hw _ (List.mem_of_getElem? (i := 149) rfl))) (notFace_of_selects (args := #[]) (mvT hZ (hw _ (List.mem_of_getElem? (i := 151) rfl)))) (mvT hZ (hw _ (List.mem_of_getElem? (i := 151) rfl))) (mvT hZ (hw _ (List.mem_of_getElem? (i := 150) rfl))) (by decide) (backOf (W := 0) (rmCat l Z a0 hw zc fm rt bl lg lv lk ci S_CS hzc S_SF h_fm S_RT E_rt F_bl E_bl F_lg E_lg F_lv A_lv S_CI E_ci [] a1 ds ii h0 O0 Ss (hds ▸ hnn) (hds.symm ▸ hlt)) hZ (hw _ (List.mem_of_getElem? (i := 152) rfl)) (hw _ (List.mem_of_getElem? (i := 7) rfl)) (by decide) (by decide)) q333a q333c (g := (mkF m 9 #[.val (.ref a1), .val (.int (Int32.ofNat ii)), .val (.int (Int32.ofNat nn)), .val (.ref ta), .val (.int (Int32.ofNat sn))] [(.int (Int32.ofNat ii)), (.ref a1)])) rfl (by rw [hml]; rfl) (Steps.refl _) (argsL := [(.int (Int32.ofNat ii))]) (rest := []) (lenOf pd_28I29C rfl) rfl (by show 2 * 0 + _ ≤ _; exact Nat.le_of_eq rfl) (hb hby d27_9) (fun _ _ => ⟨rfl, e0, (by decide : 0 + 0 ≤ _), (by decide : 0 + 0 ≤ _)⟩)
    dsimp only [Pt.U, Pt.locs, Pt.cells, Pt.slots] at X333 l333 y333 z333 st333 hQ333
    subst l333 y333 z333
    obtain ⟨rfl, Nq333, e333⟩ := hQ333
    have N334 := Fr.app N0 Nq333
    refine OEnd.of (fun tq kq => st333.trans kq) ?_
    show OEnd p e below _ (T333.setTop (mkF m 12 #[.val (.ref a1), .val (.int (Int32.ofNat ii)), .val (.int (Int32.ofNat nn)), .val (.ref ta), .val (.int (Int32.ofNat sn))] [(.int (ds.getD ii 0))]))
    refine OEnd.of (fun tq kq => XS.aloadN X333.here hx rfl (hb hby d27_12) rfl rfl kq) ?_
    show OEnd p e below _ (T333.setTop (mkF m 13 #[.val (.ref a1), .val (.int (Int32.ofNat ii)), .val (.int (Int32.ofNat nn)), .val (.ref ta), .val (.int (Int32.ofNat sn))] [(.ref ta), (.int (ds.getD ii 0))]))
    refine OEnd.of (fun tq kq => XS.iload X333.here hx rfl (hb hby d27_13) rfl kq) ?_
    show OEnd p e below _ (T333.setTop (mkF m 15 #[.val (.ref a1), .val (.int (Int32.ofNat ii)), .val (.int (Int32.ofNat nn)), .val (.ref ta), .val (.int (Int32.ofNat sn))] [(.int (Int32.ofNat sn)), (.ref ta), (.int (ds.getD ii 0))]))
    refine OEnd.of (fun tq kq => XS.iloadN X333.here hx rfl (hb hby d27_15) rfl kq) ?_
    show OEnd p e below _ (T333.setTop (mkF m 16 #[.val (.ref a1), .val (.int (Int32.ofNat ii)), .val (.int (Int32.ofNat nn)), .val (.ref ta), .val (.int (Int32.ofNat sn))] [(.int (Int32.ofNat ii)), (.int (Int32.ofNat sn)), (.ref ta), (.int (ds.getD ii 0))]))
    refine OEnd.of (fun tq kq => XS.iadd X333.here hx rfl (hb hby d27_16) rfl kq) ?_
    show OEnd p e below _ (T333.setTop (mkF m 17 #[.val (.ref a1), .val (.int (Int32.ofNat ii)), .val (.int (Int32.ofNat nn)), .val (.ref ta), .val (.int (Int32.ofNat sn))] [(.int ((Int32.ofNat sn) + (Int32.ofNat ii))), (.ref ta), (.int (ds.getD ii 0))]))
    rw [show ((Int32.ofNat sn) + (Int32.ofNat ii)) = (Int32.ofNat (sn + ii)) from own_add sn ii]
    show OEnd p e below _ (T333.setTop (mkF m 17 #[.val (.ref a1), .val (.int (Int32.ofNat ii)), .val (.int (Int32.ofNat nn)), .val (.ref ta), .val (.int (Int32.ofNat sn))] [(.int (Int32.ofNat (sn + ii))), (.ref ta), (.int (ds.getD ii 0))]))
    have Vc335 := At
    obtain ⟨cl335, Ar335, q335, S335, N335, H335, G335⟩ := Vc335
    have hin335 : ¬ ((Int32.ofNat (sn + ii)) < 0 ∨ cl335.slots.size ≤ ((Int32.ofNat (sn + ii))).toNatClampNeg) := own_inB S335 q2 hl4
    refine OEnd.of (X333.caload hx (j := (Int32.ofNat (sn + ii))) (v := (.int (cs.getD (sn + ii) 0))) (by rw [e333]; exact Ar335.1) (State.isArrayOf_alike hZ.alike Ar335.2.1) Ar335.2.2 hin335 (H335.at hin335 (own_getC q2 hl4)) (g := (mkF m 17 #[.val (.ref a1), .val (.int (Int32.ofNat ii)), .val (.int (Int32.ofNat nn)), .val (.ref ta), .val (.int (Int32.ofNat sn))] [(.int (Int32.ofNat (sn + ii))), (.ref ta), (.int (ds.getD ii 0))])) rfl rfl (hb hby d27_17)) ?_
    show OEnd p e below _ (T333.setTop (mkF m 18 #[.val (.ref a1), .val (.int (Int32.ofNat ii)), .val (.int (Int32.ofNat nn)), .val (.ref ta), .val (.int (Int32.ofNat sn))] [(.int (cs.getD (sn + ii) 0)), (.int (ds.getD ii 0))]))
    obtain ⟨_, _, ⟨T336, L336, k336, n336⟩, -, X336, ⟨Lc336, hQ336, l336, y336, z336⟩, st336⟩ := Jvm.LawKit.callS X333 hx (y := (⟨"com/example/postil/postil/server/HeaderFieldsMediaTypePinLaw", "lower", "(C)C"⟩ : MethodName)) hown (mvT hZ (hw _ (List.mem_of_getElem? (i := 162) rfl))) (mvT hZ (hw _ (List.mem_of_getElem? (i := 163) rfl))) (mvT hZ (hw _ (List.mem_of_getElem? (i := 3) rfl))) (mvT hZ (hw _ (List.mem_of_getElem? (i := 164) rfl))) (by decide) (backOf (W := 1) (rmLower l Z a0 hw zc fm rt bl lg lv lk ci S_CS hzc S_SF h_fm S_RT E_rt F_bl E_bl F_lg E_lg F_lv A_lv S_CI E_ci [] (cs.getD (sn + ii) 0) h0 O0 (own_rng hcs (sn + ii))) hZ (hw _ (List.mem_of_getElem? (i := 164) rfl)) (hw _ (List.mem_of_getElem? (i := 3) rfl)) (by decide) (by decide)) (g := (mkF m 18 #[.val (.ref a1), .val (.int (Int32.ofNat ii)), .val (.int (Int32.ofNat nn)), .val (.ref ta), .val (.int (Int32.ofNat sn))] [(.int (cs.getD (sn + ii) 0)), (.int (ds.getD ii 0))])) rfl (by rw [hml]; rfl) (argsL := [(.int (cs.getD (sn + ii) 0))]) (rest := [(.int (ds.getD ii 0))]) (lenOf pd_28C29C rfl) rfl (by show 2 * 0 + _ ≤ _; exact Nat.le_of_eq rfl) (hb hby d27_18) (fun _ _ => ⟨rfl, e333, (by decide : 0 + 0 ≤ _), (by decide : 0 + 0 ≤ _)⟩)
    dsimp only [Pt.U, Pt.locs, Pt.cells, Pt.slots] at X336 l336 y336 z336 st336 hQ336
    subst l336 y336 z336
    obtain ⟨rfl, Nq336, e336⟩ := hQ336
    have N337 := Fr.app N334 Nq336
    refine OEnd.of st336 ?_
    show OEnd p e below _ (T336.setTop (mkF m 21 #[.val (.ref a1), .val (.int (Int32.ofNat ii)), .val (.int (Int32.ofNat nn)), .val (.ref ta), .val (.int (Int32.ofNat sn))] [(.int (own_low (cs.getD (sn + ii) 0))), (.int (ds.getD ii 0))]))
    refine OEnd.of (fun tq kq => XS.icmpNo X336.here hx rfl (hb hby d27_21) rfl (teq q1).2 kq) ?_
    show OEnd p e below _ (T336.setTop (mkF m 24 #[.val (.ref a1), .val (.int (Int32.ofNat ii)), .val (.int (Int32.ofNat nn)), .val (.ref ta), .val (.int (Int32.ofNat sn))] []))
    refine OEnd.of (fun tq kq => XS.iconst X336.here hx rfl (hb hby d27_24) kq) ?_
    show OEnd p e below _ (T336.setTop (mkF m 25 #[.val (.ref a1), .val (.int (Int32.ofNat ii)), .val (.int (Int32.ofNat nn)), .val (.ref ta), .val (.int (Int32.ofNat sn))] [(.int (1 : Int32))]))
    refine OEnd.of (fun tq kq => XS.goto X336.here hx rfl (pc0 := 25) (pc' := 29) rfl (hb hby d27_25) (by decide) (by decide) kq) ?_
    show OEnd p e below _ (T336.setTop (mkF m 29 #[.val (.ref a1), .val (.int (Int32.ofNat ii)), .val (.int (Int32.ofNat nn)), .val (.ref ta), .val (.int (Int32.ofNat sn))] [(.int (1 : Int32))]))
    exact OEnd.retN X336 hx hlk e336 (t := .boolean) hret (by simp) (hb hby d27_29) ⟨rfl, N337, rfl⟩ (by decide) (by decide)
  · refine OEnd.of (fun tq kq => XS.icmpNo X0.here hx rfl (hb hby d27_2) rfl (flt hc332).1 kq) ?_
    show OEnd p e below _ (s₁.setTop (mkF m 5 #[.val (.ref a1), .val (.int (Int32.ofNat ii)), .val (.int (Int32.ofNat nn)), .val (.ref ta), .val (.int (Int32.ofNat sn))] []))
    refine OEnd.of (fun tq kq => XS.iconst X0.here hx rfl (hb hby d27_5) kq) ?_
    show OEnd p e below _ (s₁.setTop (mkF m 6 #[.val (.ref a1), .val (.int (Int32.ofNat ii)), .val (.int (Int32.ofNat nn)), .val (.ref ta), .val (.int (Int32.ofNat sn))] [(.int (1 : Int32))]))
    exact OEnd.retN X0 hx hlk e0 (t := .boolean) hret (by simp) (hb hby d27_6) ⟨rfl, N0, rfl⟩ (by decide) (by decide)
theorem pd_285bC29V : parseMethodDescriptor "([C)V" = some ⟨[(.array .char)], none⟩ := by decide +kernel
theorem pd_28Ljava2flang2fString3b29Ljava2flang2fString3b : parseMethodDescriptor "(Ljava/lang/String;)Ljava/lang/String;" = some ⟨[(.object "java/lang/String")], some (.object "java/lang/String")⟩ := by decide +kernel
theorem pd_28Ljava2flang2fString3bII5bCI29Z : parseMethodDescriptor "(Ljava/lang/String;II[CI)Z" = some ⟨[(.object "java/lang/String"), .int, .int, (.array .char), .int], some .boolean⟩ := by decide +kernel
theorem ef_rm0 (m : MethodId) (p0 : Int32) (p1 : Int32) (p2 : Int32) (p3 : Int32) (p4 : Int32) : entryFrame m #[(.int p0), (.int p1), (.int p2), (.int p3), (.int p4)] maxLocals = mkF m 0 #[.val (.int p0), .val (.int p1), .val (.int p2), .val (.int p3), .val (.int p4), .unset, .unset, .unset, .unset, .unset, .unset] [] := by first | (simp [entryFrame, mkF, argsToLocals, Value.category, maxLocals]; done) | rfl
def Qrm0 (Z : State) (zc : Int32) (fm : Value) (rt : Addr) (bl : Addr) (lg : Addr) (lv : Addr) (lk : ClassId) (ci : Addr) (p0 : Int32) (p1 : Int32) (p2 : Int32) (p3 : Int32) (p4 : Int32) (h0 : Heap) (v : Option Value) (h : Heap) (L : List Loc) : Prop := v = some (.int (1 : Int32)) ∧ Fr Z.heap.size L ∧ Keep h0 h []
set_option maxRecDepth 65536 in
set_option maxHeartbeats 40000000 in
theorem rm0 (l : Launch) (Z : State) (a0 : Array Value) (hw : ∀ d ∈ tables_1, d.before a0 Z = true) (zc : Int32) (fm : Value) (rt : Addr) (bl : Addr) (lg : Addr) (lv : Addr) (lk : ClassId) (ci : Addr) (S_CS : Sta Z Z.heap "java/lang/String" "COMPACT_STRINGS" "Z" (.int zc)) (hzc : ¬ zc = 0) (S_SF : Sta Z Z.heap "jdk/internal/util/Preconditions" "SIOOBE_FORMATTER" "Ljava/util/function/BiFunction;" fm) (h_fm : fm.isRef = true) (S_RT : Sta Z Z.heap "java/util/Locale" "ROOT" "Ljava/util/Locale;" (.ref rt)) (E_rt : Exa Z Z.heap rt "java/util/Locale") (F_bl : Fld Z Z.heap rt "java/util/Locale" "baseLocale" "Lsun/util/locale/BaseLocale;" (.ref bl)) (E_bl : Exa Z Z.heap bl "sun/util/locale/BaseLocale") (F_lg : Fld Z Z.heap bl "sun/util/locale/BaseLocale" "language" "Ljava/lang/String;" (.ref lg)) (E_lg : Exa Z Z.heap lg "java/lang/String") (F_lv : Fld Z Z.heap lg "java/lang/String" "value" "[B" (.ref lv)) (A_lv : Arv Z Z.heap lv lk .byte (0 : Int32) [] (.int (0 : Int32))) (S_CI : Sta Z Z.heap "java/lang/CharacterDataLatin1" "instance" "Ljava/lang/CharacterDataLatin1;" (.ref ci)) (E_ci : Exa Z Z.heap ci "java/lang/CharacterDataLatin1") (hEL : EW Z a0 EL) (ws : List Jvm.Cond) (p0 : Int32) (p1 : Int32) (p2 : Int32) (p3 : Int32) (p4 : Int32) (h0 : Heap) (O0 : Ext Z.heap h0) :
    MetFree l x (head1 (Jvm.Cond.code x code maxLocals ret :: ws) room_1) (fun a U => a = #[(.int p0), (.int p1), (.int p2), (.int p3), (.int p4)] ∧ Z.Warmed39 U.vm ∧ U.heap = h0 ∧ CHv Z EL U.vm h0) (fun _ _ _ _ _ => True) (fun _ U o U' => ∃ v L, o = .returned v ∧ Qrm0 Z zc fm rt bl lg lv lk ci p0 p1 p2 p3 p4 h0 v U'.heap L ∧ CHr Z EL U.vm U.heap U'.vm U'.heap ∧ ReturnedEndW U o U' L 40 4288) := by
  refine MetFree.of_bodySF (plainFor_of_name pn_com_example_postil_postil_server_HeaderFieldsMediaTypePinLaw) hisR ?_
  intro p e s m args below meth c s₁ Bd hml0 hP hK
  obtain ⟨rfl, hZ, hh, hC0⟩ := hP
  have hx := Bd.exec
  have hby := Bd.bytes
  have hlk : meth.locks = false := BodyLoose.notSynchronized Bd
  have hret := Bd.returns
  have hml : c.maxLocals = 11 := hml0
  have hown : s.vm.findClass "com/example/postil/postil/server/HeaderFieldsMediaTypePinLaw" = some m.cls := findClass_of_methodNamed Bd.named
  have hnm := (name_of_methodNamed Bd.named Bd.method).1
  have X0 : Stand p l e room_1 (s.setVm s.vm) m #[(.int p0), (.int p1), (.int p2), (.int p3), (.int p4)] below meth c s₁ [] 0 0 := Stand.of_body Bd
  have e0 : s₁.heap = h0 := by rw [← hh, Bd.state]; rfl
  have N0 := Fr.nil Z.heap.size
  have hZ : Z.Warmed39 (s.setVm s.vm).vm := hZ
  have hS0 : s.Since s.vm h0.size := (State.WarmedH.refl s).since _
  have hk0 : h0.size ≤ h0.size := Nat.le_refl _
  have HR0 : CHr Z EL s.vm h0 s.vm h0 := CHr.refl hC0
  have hwS : ∀ d ∈ Bundle.stringAtoms, d.before a0 Z = true := fun d hd => hw d (own_strAtoms d hd)
  show OEnd p e below (GW s Z EL (Qrm0 Z zc fm rt bl lg lv lk ci p0 p1 p2 p3 p4 h0) 40 4288) _
  refine OEnd.of (fun tq kq => castTop (ef_rm0 m p0 p1 p2 p3 p4) kq) ?_
  refine OEnd.of (fun tq kq => XS.iconst X0.here hx rfl (hb hby at_0) kq) ?_
  show OEnd p e below _ (s₁.setTop (mkF m 1 #[.val (.int p0), .val (.int p1), .val (.int p2), .val (.int p3), .val (.int p4), .unset, .unset, .unset, .unset, .unset, .unset] [(.int (5 : Int32))]))
  obtain ⟨T338, h338, k338, X338, e338, E338, A338, st338⟩ := newP X0 hx hZ (hw _ (List.mem_of_getElem? (i := 0) rfl)) e0 (g := (mkF m 1 #[.val (.int p0), .val (.int p1), .val (.int p2), .val (.int p3), .val (.int p4), .unset, .unset, .unset, .unset, .unset, .unset] [(.int (5 : Int32))])) rfl (hb hby at_1) rfl (by decide) (cap := 5) (by decide) (by decide) (by decide) (by decide)
  obtain ⟨b338, g338⟩ : ∃ z, z = h0.size := ⟨_, rfl⟩
  rw [← g338] at A338 st338
  refine OEnd.of st338 ?_
  have V338 : Arv Z h338 b338 k338 .char (5 : Int32) [(.int (0 : Int32)), (.int (0 : Int32)), (.int (0 : Int32)), (.int (0 : Int32)), (.int (0 : Int32))] (.int (0 : Int32)) := (Arv.new A338 (by decide)).pad (pad_rep [] (.int (0 : Int32)) 5)
  have f338 : Z.heap.size ≤ b338 := Nat.le_trans O0.1 (Nat.le_of_eq g338.symm)
  have CR339 : CHr Z EL s.vm h0 s.vm h338 := CHr.ext E338 HR0.1
  have HR340 : CHr Z EL s.vm h0 s.vm h338 := HR0.trans CR339
  show OEnd p e below _ (T338.setTop (mkF m 3 #[.val (.int p0), .val (.int p1), .val (.int p2), .val (.int p3), .val (.int p4), .unset, .unset, .unset, .unset, .unset, .unset] [(.ref b338)]))
  refine OEnd.of (fun tq kq => XS.astore X338.here hx rfl (hb hby at_3) rfl rfl (l' := #[.val (.int p0), .val (.int p1), .val (.int p2), .val (.int p3), .val (.int p4), .val (.ref b338), .unset, .unset, .unset, .unset, .unset]) rfl kq) ?_
  show OEnd p e below _ (T338.setTop (mkF m 5 #[.val (.int p0), .val (.int p1), .val (.int p2), .val (.int p3), .val (.int p4), .val (.ref b338), .unset, .unset, .unset, .unset, .unset] []))
  refine OEnd.of (fun tq kq => XS.aload X338.here hx rfl (hb hby at_5) rfl rfl kq) ?_
  show OEnd p e below _ (T338.setTop (mkF m 7 #[.val (.int p0), .val (.int p1), .val (.int p2), .val (.int p3), .val (.int p4), .val (.ref b338), .unset, .unset, .unset, .unset, .unset] [(.ref b338)]))
  refine OEnd.of (fun tq kq => XS.iconst X338.here hx rfl (hb hby at_7) kq) ?_
  show OEnd p e below _ (T338.setTop (mkF m 8 #[.val (.int p0), .val (.int p1), .val (.int p2), .val (.int p3), .val (.int p4), .val (.ref b338), .unset, .unset, .unset, .unset, .unset] [(.int (0 : Int32)), (.ref b338)]))
  refine OEnd.of (fun tq kq => XS.iloadN X338.here hx rfl (hb hby at_8) rfl kq) ?_
  show OEnd p e below _ (T338.setTop (mkF m 9 #[.val (.int p0), .val (.int p1), .val (.int p2), .val (.int p3), .val (.int p4), .val (.ref b338), .unset, .unset, .unset, .unset, .unset] [(.int p0), (.int (0 : Int32)), (.ref b338)]))
  have K342 : Keep h0 h338 [] := ((Keep.refl h0 []).ext E338)
  have O343 : Ext Z.heap h338 := own_extKeep O0 K342 all0
  obtain ⟨_, _, ⟨T341, L341, k341, n341⟩, -, X341, ⟨Lc341, hQ341, l341, y341, z341⟩, st341⟩ := Jvm.LawKit.callS X338 hx (y := (⟨"com/example/postil/postil/server/HeaderFieldsMediaTypePinLaw", "draw", "(I)C"⟩ : MethodName)) hown (mvT hZ (hw _ (List.mem_of_getElem? (i := 1) rfl))) (mvT hZ (hw _ (List.mem_of_getElem? (i := 2) rfl))) (mvT hZ (hw _ (List.mem_of_getElem? (i := 3) rfl))) (mvT hZ (hw _ (List.mem_of_getElem? (i := 4) rfl))) (by decide) (backOf (W := 2) (rmDraw l Z a0 hw zc fm rt bl lg lv lk ci S_CS hzc S_SF h_fm S_RT E_rt F_bl E_bl F_lg E_lg F_lv A_lv S_CI E_ci [] p0 h338 O343 ) hZ (hw _ (List.mem_of_getElem? (i := 4) rfl)) (hw _ (List.mem_of_getElem? (i := 3) rfl)) (by decide) (by decide)) (g := (mkF m 9 #[.val (.int p0), .val (.int p1), .val (.int p2), .val (.int p3), .val (.int p4), .val (.ref b338), .unset, .unset, .unset, .unset, .unset] [(.int p0), (.int (0 : Int32)), (.ref b338)])) rfl (by rw [hml]; rfl) (argsL := [(.int p0)]) (rest := [(.int (0 : Int32)), (.ref b338)]) (lenOf pd_28I29C rfl) rfl (by show 2 * 0 + _ ≤ _; exact Nat.le_of_eq rfl) (hb hby at_9) (fun _ _ => ⟨rfl, e338, (by decide : 1 + 0 ≤ _), (by decide : 5 + 0 ≤ _)⟩)
  dsimp only [Pt.U, Pt.locs, Pt.cells, Pt.slots] at X341 l341 y341 z341 st341 hQ341
  subst l341 y341 z341
  obtain ⟨ch_344, rfl, Nq341, e341, hch_345⟩ := hQ341
  have N346 := Fr.app N0 Nq341
  refine OEnd.of st341 ?_
  show OEnd p e below _ (T341.setTop (mkF m 12 #[.val (.int p0), .val (.int p1), .val (.int p2), .val (.int p3), .val (.int p4), .val (.ref b338), .unset, .unset, .unset, .unset, .unset] [(.int ch_344), (.int (0 : Int32)), (.ref b338)]))
  have hch_ch_344 := hch_345
  have Vc347 := V338
  obtain ⟨cl347, Ar347, q347, S347, N347, H347, G347⟩ := Vc347
  have hin347 : ¬ ((0 : Int32) < 0 ∨ cl347.slots.size ≤ ((0 : Int32)).toNatClampNeg) := inb_of S347 ⟨by decide, by decide⟩
  obtain ⟨T347, h347, X347, e347, W347, st347⟩ := stC X341 hx hZ e341 Ar347 (j := (0 : Int32)) hin347 (g := (mkF m 12 #[.val (.int p0), .val (.int p1), .val (.int p2), .val (.int p3), .val (.int p4), .val (.ref b338), .unset, .unset, .unset, .unset, .unset] [(.int ch_344), (.int (0 : Int32)), (.ref b338)])) rfl rfl (hb hby at_12)
  refine OEnd.of st347 ?_
  rw [(own_narC hch_ch_344)] at W347
  have V348 : Arv Z h347 b338 k338 .char (5 : Int32) [(.int ch_344), (.int (0 : Int32)), (.int (0 : Int32)), (.int (0 : Int32)), (.int (0 : Int32))] (.int (0 : Int32)) := Arv.set Ar347 q347 S347 N347 H347 G347 ((own_narC hch_ch_344) ▸ fits_nar_char _) W347 0 rfl (Nat.le_of_ble_eq_true rfl)
  have N349 := Fr.snoc X347 N346 f338
  have CR350 : CHr Z EL s.vm h338 s.vm h347 := CHr.wr W347 (own_safeArv hZ.alike V338 (by decide)) HR340.1
  have HR351 : CHr Z EL s.vm h0 s.vm h347 := HR340.trans CR350
  show OEnd p e below _ (T347.setTop (mkF m 13 #[.val (.int p0), .val (.int p1), .val (.int p2), .val (.int p3), .val (.int p4), .val (.ref b338), .unset, .unset, .unset, .unset, .unset] []))
  refine OEnd.of (fun tq kq => XS.aload X347.here hx rfl (hb hby at_13) rfl rfl kq) ?_
  show OEnd p e below _ (T347.setTop (mkF m 15 #[.val (.int p0), .val (.int p1), .val (.int p2), .val (.int p3), .val (.int p4), .val (.ref b338), .unset, .unset, .unset, .unset, .unset] [(.ref b338)]))
  refine OEnd.of (fun tq kq => XS.iconst X347.here hx rfl (hb hby at_15) kq) ?_
  show OEnd p e below _ (T347.setTop (mkF m 16 #[.val (.int p0), .val (.int p1), .val (.int p2), .val (.int p3), .val (.int p4), .val (.ref b338), .unset, .unset, .unset, .unset, .unset] [(.int (1 : Int32)), (.ref b338)]))
  refine OEnd.of (fun tq kq => XS.iloadN X347.here hx rfl (hb hby at_16) rfl kq) ?_
  show OEnd p e below _ (T347.setTop (mkF m 17 #[.val (.int p0), .val (.int p1), .val (.int p2), .val (.int p3), .val (.int p4), .val (.ref b338), .unset, .unset, .unset, .unset, .unset] [(.int p1), (.int (1 : Int32)), (.ref b338)]))
  have K353 : Keep h338 h347 [b338] := ((Keep.refl h338 [b338]).wr W347 (Or.inl (List.mem_of_getElem? (i := 0) rfl)))
  have O354 : Ext Z.heap h347 := own_extKeep O343 K353 (allS f338 all0)
  obtain ⟨_, _, ⟨T352, L352, k352, n352⟩, -, X352, ⟨Lc352, hQ352, l352, y352, z352⟩, st352⟩ := Jvm.LawKit.callS X347 hx (y := (⟨"com/example/postil/postil/server/HeaderFieldsMediaTypePinLaw", "draw", "(I)C"⟩ : MethodName)) hown (mvT hZ (hw _ (List.mem_of_getElem? (i := 1) rfl))) (mvT hZ (hw _ (List.mem_of_getElem? (i := 2) rfl))) (mvT hZ (hw _ (List.mem_of_getElem? (i := 3) rfl))) (mvT hZ (hw _ (List.mem_of_getElem? (i := 4) rfl))) (by decide) (backOf (W := 2) (rmDraw l Z a0 hw zc fm rt bl lg lv lk ci S_CS hzc S_SF h_fm S_RT E_rt F_bl E_bl F_lg E_lg F_lv A_lv S_CI E_ci [] p1 h347 O354 ) hZ (hw _ (List.mem_of_getElem? (i := 4) rfl)) (hw _ (List.mem_of_getElem? (i := 3) rfl)) (by decide) (by decide)) (g := (mkF m 17 #[.val (.int p0), .val (.int p1), .val (.int p2), .val (.int p3), .val (.int p4), .val (.ref b338), .unset, .unset, .unset, .unset, .unset] [(.int p1), (.int (1 : Int32)), (.ref b338)])) rfl (by rw [hml]; rfl) (argsL := [(.int p1)]) (rest := [(.int (1 : Int32)), (.ref b338)]) (lenOf pd_28I29C rfl) rfl (by show 2 * 0 + _ ≤ _; exact Nat.le_of_eq rfl) (hb hby at_17) (fun _ _ => ⟨rfl, e347, (by decide : 1 + 0 ≤ _), (by decide : 5 + 0 ≤ _)⟩)
  dsimp only [Pt.U, Pt.locs, Pt.cells, Pt.slots] at X352 l352 y352 z352 st352 hQ352
  subst l352 y352 z352
  obtain ⟨ch_355, rfl, Nq352, e352, hch_356⟩ := hQ352
  have N357 := Fr.app N349 Nq352
  refine OEnd.of st352 ?_
  show OEnd p e below _ (T352.setTop (mkF m 20 #[.val (.int p0), .val (.int p1), .val (.int p2), .val (.int p3), .val (.int p4), .val (.ref b338), .unset, .unset, .unset, .unset, .unset] [(.int ch_355), (.int (1 : Int32)), (.ref b338)]))
  have hch_ch_355 := hch_356
  have Vc358 := V348
  obtain ⟨cl358, Ar358, q358, S358, N358, H358, G358⟩ := Vc358
  have hin358 : ¬ ((1 : Int32) < 0 ∨ cl358.slots.size ≤ ((1 : Int32)).toNatClampNeg) := inb_of S358 ⟨by decide, by decide⟩
  obtain ⟨T358, h358, X358, e358, W358, st358⟩ := stC X352 hx hZ e352 Ar358 (j := (1 : Int32)) hin358 (g := (mkF m 20 #[.val (.int p0), .val (.int p1), .val (.int p2), .val (.int p3), .val (.int p4), .val (.ref b338), .unset, .unset, .unset, .unset, .unset] [(.int ch_355), (.int (1 : Int32)), (.ref b338)])) rfl rfl (hb hby at_20)
  refine OEnd.of st358 ?_
  rw [(own_narC hch_ch_355)] at W358
  have V359 : Arv Z h358 b338 k338 .char (5 : Int32) [(.int ch_344), (.int ch_355), (.int (0 : Int32)), (.int (0 : Int32)), (.int (0 : Int32))] (.int (0 : Int32)) := Arv.set Ar358 q358 S358 N358 H358 G358 ((own_narC hch_ch_355) ▸ fits_nar_char _) W358 1 rfl (Nat.le_of_ble_eq_true rfl)
  have N360 := Fr.snoc X358 N357 f338
  have CR361 : CHr Z EL s.vm h347 s.vm h358 := CHr.wr W358 (own_safeArv hZ.alike V348 (by decide)) HR351.1
  have HR362 : CHr Z EL s.vm h0 s.vm h358 := HR351.trans CR361
  show OEnd p e below _ (T358.setTop (mkF m 21 #[.val (.int p0), .val (.int p1), .val (.int p2), .val (.int p3), .val (.int p4), .val (.ref b338), .unset, .unset, .unset, .unset, .unset] []))
  refine OEnd.of (fun tq kq => XS.aload X358.here hx rfl (hb hby at_21) rfl rfl kq) ?_
  show OEnd p e below _ (T358.setTop (mkF m 23 #[.val (.int p0), .val (.int p1), .val (.int p2), .val (.int p3), .val (.int p4), .val (.ref b338), .unset, .unset, .unset, .unset, .unset] [(.ref b338)]))
  refine OEnd.of (fun tq kq => XS.iconst X358.here hx rfl (hb hby at_23) kq) ?_
  show OEnd p e below _ (T358.setTop (mkF m 24 #[.val (.int p0), .val (.int p1), .val (.int p2), .val (.int p3), .val (.int p4), .val (.ref b338), .unset, .unset, .unset, .unset, .unset] [(.int (2 : Int32)), (.ref b338)]))
  refine OEnd.of (fun tq kq => XS.iloadN X358.here hx rfl (hb hby at_24) rfl kq) ?_
  show OEnd p e below _ (T358.setTop (mkF m 25 #[.val (.int p0), .val (.int p1), .val (.int p2), .val (.int p3), .val (.int p4), .val (.ref b338), .unset, .unset, .unset, .unset, .unset] [(.int p2), (.int (2 : Int32)), (.ref b338)]))
  have K364 : Keep h347 h358 [b338] := ((Keep.refl h347 [b338]).wr W358 (Or.inl (List.mem_of_getElem? (i := 0) rfl)))
  have O365 : Ext Z.heap h358 := own_extKeep O354 K364 (allS f338 all0)
  obtain ⟨_, _, ⟨T363, L363, k363, n363⟩, -, X363, ⟨Lc363, hQ363, l363, y363, z363⟩, st363⟩ := Jvm.LawKit.callS X358 hx (y := (⟨"com/example/postil/postil/server/HeaderFieldsMediaTypePinLaw", "draw", "(I)C"⟩ : MethodName)) hown (mvT hZ (hw _ (List.mem_of_getElem? (i := 1) rfl))) (mvT hZ (hw _ (List.mem_of_getElem? (i := 2) rfl))) (mvT hZ (hw _ (List.mem_of_getElem? (i := 3) rfl))) (mvT hZ (hw _ (List.mem_of_getElem? (i := 4) rfl))) (by decide) (backOf (W := 2) (rmDraw l Z a0 hw zc fm rt bl lg lv lk ci S_CS hzc S_SF h_fm S_RT E_rt F_bl E_bl F_lg E_lg F_lv A_lv S_CI E_ci [] p2 h358 O365 ) hZ (hw _ (List.mem_of_getElem? (i := 4) rfl)) (hw _ (List.mem_of_getElem? (i := 3) rfl)) (by decide) (by decide)) (g := (mkF m 25 #[.val (.int p0), .val (.int p1), .val (.int p2), .val (.int p3), .val (.int p4), .val (.ref b338), .unset, .unset, .unset, .unset, .unset] [(.int p2), (.int (2 : Int32)), (.ref b338)])) rfl (by rw [hml]; rfl) (argsL := [(.int p2)]) (rest := [(.int (2 : Int32)), (.ref b338)]) (lenOf pd_28I29C rfl) rfl (by show 2 * 0 + _ ≤ _; exact Nat.le_of_eq rfl) (hb hby at_25) (fun _ _ => ⟨rfl, e358, (by decide : 1 + 0 ≤ _), (by decide : 5 + 0 ≤ _)⟩)
  dsimp only [Pt.U, Pt.locs, Pt.cells, Pt.slots] at X363 l363 y363 z363 st363 hQ363
  subst l363 y363 z363
  obtain ⟨ch_366, rfl, Nq363, e363, hch_367⟩ := hQ363
  have N368 := Fr.app N360 Nq363
  refine OEnd.of st363 ?_
  show OEnd p e below _ (T363.setTop (mkF m 28 #[.val (.int p0), .val (.int p1), .val (.int p2), .val (.int p3), .val (.int p4), .val (.ref b338), .unset, .unset, .unset, .unset, .unset] [(.int ch_366), (.int (2 : Int32)), (.ref b338)]))
  have hch_ch_366 := hch_367
  have Vc369 := V359
  obtain ⟨cl369, Ar369, q369, S369, N369, H369, G369⟩ := Vc369
  have hin369 : ¬ ((2 : Int32) < 0 ∨ cl369.slots.size ≤ ((2 : Int32)).toNatClampNeg) := inb_of S369 ⟨by decide, by decide⟩
  obtain ⟨T369, h369, X369, e369, W369, st369⟩ := stC X363 hx hZ e363 Ar369 (j := (2 : Int32)) hin369 (g := (mkF m 28 #[.val (.int p0), .val (.int p1), .val (.int p2), .val (.int p3), .val (.int p4), .val (.ref b338), .unset, .unset, .unset, .unset, .unset] [(.int ch_366), (.int (2 : Int32)), (.ref b338)])) rfl rfl (hb hby at_28)
  refine OEnd.of st369 ?_
  rw [(own_narC hch_ch_366)] at W369
  have V370 : Arv Z h369 b338 k338 .char (5 : Int32) [(.int ch_344), (.int ch_355), (.int ch_366), (.int (0 : Int32)), (.int (0 : Int32))] (.int (0 : Int32)) := Arv.set Ar369 q369 S369 N369 H369 G369 ((own_narC hch_ch_366) ▸ fits_nar_char _) W369 2 rfl (Nat.le_of_ble_eq_true rfl)
  have N371 := Fr.snoc X369 N368 f338
  have CR372 : CHr Z EL s.vm h358 s.vm h369 := CHr.wr W369 (own_safeArv hZ.alike V359 (by decide)) HR362.1
  have HR373 : CHr Z EL s.vm h0 s.vm h369 := HR362.trans CR372
  show OEnd p e below _ (T369.setTop (mkF m 29 #[.val (.int p0), .val (.int p1), .val (.int p2), .val (.int p3), .val (.int p4), .val (.ref b338), .unset, .unset, .unset, .unset, .unset] []))
  refine OEnd.of (fun tq kq => XS.aload X369.here hx rfl (hb hby at_29) rfl rfl kq) ?_
  show OEnd p e below _ (T369.setTop (mkF m 31 #[.val (.int p0), .val (.int p1), .val (.int p2), .val (.int p3), .val (.int p4), .val (.ref b338), .unset, .unset, .unset, .unset, .unset] [(.ref b338)]))
  refine OEnd.of (fun tq kq => XS.iconst X369.here hx rfl (hb hby at_31) kq) ?_
  show OEnd p e below _ (T369.setTop (mkF m 32 #[.val (.int p0), .val (.int p1), .val (.int p2), .val (.int p3), .val (.int p4), .val (.ref b338), .unset, .unset, .unset, .unset, .unset] [(.int (3 : Int32)), (.ref b338)]))
  refine OEnd.of (fun tq kq => XS.iloadN X369.here hx rfl (hb hby at_32) rfl kq) ?_
  show OEnd p e below _ (T369.setTop (mkF m 33 #[.val (.int p0), .val (.int p1), .val (.int p2), .val (.int p3), .val (.int p4), .val (.ref b338), .unset, .unset, .unset, .unset, .unset] [(.int p3), (.int (3 : Int32)), (.ref b338)]))
  have K375 : Keep h358 h369 [b338] := ((Keep.refl h358 [b338]).wr W369 (Or.inl (List.mem_of_getElem? (i := 0) rfl)))
  have O376 : Ext Z.heap h369 := own_extKeep O365 K375 (allS f338 all0)
  obtain ⟨_, _, ⟨T374, L374, k374, n374⟩, -, X374, ⟨Lc374, hQ374, l374, y374, z374⟩, st374⟩ := Jvm.LawKit.callS X369 hx (y := (⟨"com/example/postil/postil/server/HeaderFieldsMediaTypePinLaw", "draw", "(I)C"⟩ : MethodName)) hown (mvT hZ (hw _ (List.mem_of_getElem? (i := 1) rfl))) (mvT hZ (hw _ (List.mem_of_getElem? (i := 2) rfl))) (mvT hZ (hw _ (List.mem_of_getElem? (i := 3) rfl))) (mvT hZ (hw _ (List.mem_of_getElem? (i := 4) rfl))) (by decide) (backOf (W := 2) (rmDraw l Z a0 hw zc fm rt bl lg lv lk ci S_CS hzc S_SF h_fm S_RT E_rt F_bl E_bl F_lg E_lg F_lv A_lv S_CI E_ci [] p3 h369 O376 ) hZ (hw _ (List.mem_of_getElem? (i := 4) rfl)) (hw _ (List.mem_of_getElem? (i := 3) rfl)) (by decide) (by decide)) (g := (mkF m 33 #[.val (.int p0), .val (.int p1), .val (.int p2), .val (.int p3), .val (.int p4), .val (.ref b338), .unset, .unset, .unset, .unset, .unset] [(.int p3), (.int (3 : Int32)), (.ref b338)])) rfl (by rw [hml]; rfl) (argsL := [(.int p3)]) (rest := [(.int (3 : Int32)), (.ref b338)]) (lenOf pd_28I29C rfl) rfl (by show 2 * 0 + _ ≤ _; exact Nat.le_of_eq rfl) (hb hby at_33) (fun _ _ => ⟨rfl, e369, (by decide : 1 + 0 ≤ _), (by decide : 5 + 0 ≤ _)⟩)
  dsimp only [Pt.U, Pt.locs, Pt.cells, Pt.slots] at X374 l374 y374 z374 st374 hQ374
  subst l374 y374 z374
  obtain ⟨ch_377, rfl, Nq374, e374, hch_378⟩ := hQ374
  have N379 := Fr.app N371 Nq374
  refine OEnd.of st374 ?_
  show OEnd p e below _ (T374.setTop (mkF m 36 #[.val (.int p0), .val (.int p1), .val (.int p2), .val (.int p3), .val (.int p4), .val (.ref b338), .unset, .unset, .unset, .unset, .unset] [(.int ch_377), (.int (3 : Int32)), (.ref b338)]))
  have hch_ch_377 := hch_378
  have Vc380 := V370
  obtain ⟨cl380, Ar380, q380, S380, N380, H380, G380⟩ := Vc380
  have hin380 : ¬ ((3 : Int32) < 0 ∨ cl380.slots.size ≤ ((3 : Int32)).toNatClampNeg) := inb_of S380 ⟨by decide, by decide⟩
  obtain ⟨T380, h380, X380, e380, W380, st380⟩ := stC X374 hx hZ e374 Ar380 (j := (3 : Int32)) hin380 (g := (mkF m 36 #[.val (.int p0), .val (.int p1), .val (.int p2), .val (.int p3), .val (.int p4), .val (.ref b338), .unset, .unset, .unset, .unset, .unset] [(.int ch_377), (.int (3 : Int32)), (.ref b338)])) rfl rfl (hb hby at_36)
  refine OEnd.of st380 ?_
  rw [(own_narC hch_ch_377)] at W380
  have V381 : Arv Z h380 b338 k338 .char (5 : Int32) [(.int ch_344), (.int ch_355), (.int ch_366), (.int ch_377), (.int (0 : Int32))] (.int (0 : Int32)) := Arv.set Ar380 q380 S380 N380 H380 G380 ((own_narC hch_ch_377) ▸ fits_nar_char _) W380 3 rfl (Nat.le_of_ble_eq_true rfl)
  have N382 := Fr.snoc X380 N379 f338
  have CR383 : CHr Z EL s.vm h369 s.vm h380 := CHr.wr W380 (own_safeArv hZ.alike V370 (by decide)) HR373.1
  have HR384 : CHr Z EL s.vm h0 s.vm h380 := HR373.trans CR383
  show OEnd p e below _ (T380.setTop (mkF m 37 #[.val (.int p0), .val (.int p1), .val (.int p2), .val (.int p3), .val (.int p4), .val (.ref b338), .unset, .unset, .unset, .unset, .unset] []))
  refine OEnd.of (fun tq kq => XS.aload X380.here hx rfl (hb hby at_37) rfl rfl kq) ?_
  show OEnd p e below _ (T380.setTop (mkF m 39 #[.val (.int p0), .val (.int p1), .val (.int p2), .val (.int p3), .val (.int p4), .val (.ref b338), .unset, .unset, .unset, .unset, .unset] [(.ref b338)]))
  refine OEnd.of (fun tq kq => XS.iconst X380.here hx rfl (hb hby at_39) kq) ?_
  show OEnd p e below _ (T380.setTop (mkF m 40 #[.val (.int p0), .val (.int p1), .val (.int p2), .val (.int p3), .val (.int p4), .val (.ref b338), .unset, .unset, .unset, .unset, .unset] [(.int (4 : Int32)), (.ref b338)]))
  refine OEnd.of (fun tq kq => XS.iload X380.here hx rfl (hb hby at_40) rfl kq) ?_
  show OEnd p e below _ (T380.setTop (mkF m 42 #[.val (.int p0), .val (.int p1), .val (.int p2), .val (.int p3), .val (.int p4), .val (.ref b338), .unset, .unset, .unset, .unset, .unset] [(.int p4), (.int (4 : Int32)), (.ref b338)]))
  have K386 : Keep h369 h380 [b338] := ((Keep.refl h369 [b338]).wr W380 (Or.inl (List.mem_of_getElem? (i := 0) rfl)))
  have O387 : Ext Z.heap h380 := own_extKeep O376 K386 (allS f338 all0)
  obtain ⟨_, _, ⟨T385, L385, k385, n385⟩, -, X385, ⟨Lc385, hQ385, l385, y385, z385⟩, st385⟩ := Jvm.LawKit.callS X380 hx (y := (⟨"com/example/postil/postil/server/HeaderFieldsMediaTypePinLaw", "draw", "(I)C"⟩ : MethodName)) hown (mvT hZ (hw _ (List.mem_of_getElem? (i := 1) rfl))) (mvT hZ (hw _ (List.mem_of_getElem? (i := 2) rfl))) (mvT hZ (hw _ (List.mem_of_getElem? (i := 3) rfl))) (mvT hZ (hw _ (List.mem_of_getElem? (i := 4) rfl))) (by decide) (backOf (W := 2) (rmDraw l Z a0 hw zc fm rt bl lg lv lk ci S_CS hzc S_SF h_fm S_RT E_rt F_bl E_bl F_lg E_lg F_lv A_lv S_CI E_ci [] p4 h380 O387 ) hZ (hw _ (List.mem_of_getElem? (i := 4) rfl)) (hw _ (List.mem_of_getElem? (i := 3) rfl)) (by decide) (by decide)) (g := (mkF m 42 #[.val (.int p0), .val (.int p1), .val (.int p2), .val (.int p3), .val (.int p4), .val (.ref b338), .unset, .unset, .unset, .unset, .unset] [(.int p4), (.int (4 : Int32)), (.ref b338)])) rfl (by rw [hml]; rfl) (argsL := [(.int p4)]) (rest := [(.int (4 : Int32)), (.ref b338)]) (lenOf pd_28I29C rfl) rfl (by show 2 * 0 + _ ≤ _; exact Nat.le_of_eq rfl) (hb hby at_42) (fun _ _ => ⟨rfl, e380, (by decide : 1 + 0 ≤ _), (by decide : 5 + 0 ≤ _)⟩)
  dsimp only [Pt.U, Pt.locs, Pt.cells, Pt.slots] at X385 l385 y385 z385 st385 hQ385
  subst l385 y385 z385
  obtain ⟨ch_388, rfl, Nq385, e385, hch_389⟩ := hQ385
  have N390 := Fr.app N382 Nq385
  refine OEnd.of st385 ?_
  show OEnd p e below _ (T385.setTop (mkF m 45 #[.val (.int p0), .val (.int p1), .val (.int p2), .val (.int p3), .val (.int p4), .val (.ref b338), .unset, .unset, .unset, .unset, .unset] [(.int ch_388), (.int (4 : Int32)), (.ref b338)]))
  have hch_ch_388 := hch_389
  have Vc391 := V381
  obtain ⟨cl391, Ar391, q391, S391, N391, H391, G391⟩ := Vc391
  have hin391 : ¬ ((4 : Int32) < 0 ∨ cl391.slots.size ≤ ((4 : Int32)).toNatClampNeg) := inb_of S391 ⟨by decide, by decide⟩
  obtain ⟨T391, h391, X391, e391, W391, st391⟩ := stC X385 hx hZ e385 Ar391 (j := (4 : Int32)) hin391 (g := (mkF m 45 #[.val (.int p0), .val (.int p1), .val (.int p2), .val (.int p3), .val (.int p4), .val (.ref b338), .unset, .unset, .unset, .unset, .unset] [(.int ch_388), (.int (4 : Int32)), (.ref b338)])) rfl rfl (hb hby at_45)
  refine OEnd.of st391 ?_
  rw [(own_narC hch_ch_388)] at W391
  have V392 : Arv Z h391 b338 k338 .char (5 : Int32) [(.int ch_344), (.int ch_355), (.int ch_366), (.int ch_377), (.int ch_388)] (.int (0 : Int32)) := Arv.set Ar391 q391 S391 N391 H391 G391 ((own_narC hch_ch_388) ▸ fits_nar_char _) W391 4 rfl (Nat.le_of_ble_eq_true rfl)
  have N393 := Fr.snoc X391 N390 f338
  have CR394 : CHr Z EL s.vm h380 s.vm h391 := CHr.wr W391 (own_safeArv hZ.alike V381 (by decide)) HR384.1
  have HR395 : CHr Z EL s.vm h0 s.vm h391 := HR384.trans CR394
  show OEnd p e below _ (T391.setTop (mkF m 46 #[.val (.int p0), .val (.int p1), .val (.int p2), .val (.int p3), .val (.int p4), .val (.ref b338), .unset, .unset, .unset, .unset, .unset] []))
  have K397 : Keep h380 h391 [b338] := ((Keep.refl h380 [b338]).wr W391 (Or.inl (List.mem_of_getElem? (i := 0) rfl)))
  have O398 : Ext Z.heap h391 := own_extKeep O387 K397 (allS f338 all0)
  obtain ⟨T396, h396, X396, e396, E396, A396, D396, -, st396⟩ := newO X391 hx hZ hown (hw _ (List.mem_of_getElem? (i := 5) rfl)) (hw _ (List.mem_of_getElem? (i := 6) rfl)) (hw _ (List.mem_of_getElem? (i := 7) rfl)) e391 (g := (mkF m 46 #[.val (.int p0), .val (.int p1), .val (.int p2), .val (.int p3), .val (.int p4), .val (.ref b338), .unset, .unset, .unset, .unset, .unset] [])) rfl (hb hby at_46) (by decide) (by decide)
  obtain ⟨b396, g396⟩ : ∃ z, z = h391.size := ⟨_, rfl⟩
  rw [← g396] at A396 D396 st396
  refine OEnd.of st396 ?_
  have f396 : Z.heap.size ≤ b396 := Nat.le_trans O398.1 (Nat.le_of_eq g396.symm)
  have F399 : Fld Z h396 b396 "java/lang/String" "coder" "B" (.int (0 : Int32)) := D396 (Or.inr (hw _ (List.mem_of_getElem? (i := 31) rfl))) (ty := .byte) (by decide)
  have F400 : Fld Z h396 b396 "java/lang/String" "value" "[B" .null := D396 (Or.inr (hw _ (List.mem_of_getElem? (i := 33) rfl))) (ty := (.array .byte)) (by decide)
  have CR401 : CHr Z EL s.vm h391 s.vm h396 := CHr.ext E396 HR395.1
  have HR402 : CHr Z EL s.vm h0 s.vm h396 := HR395.trans CR401
  show OEnd p e below _ (T396.setTop (mkF m 49 #[.val (.int p0), .val (.int p1), .val (.int p2), .val (.int p3), .val (.int p4), .val (.ref b338), .unset, .unset, .unset, .unset, .unset] [(.ref b396)]))
  refine OEnd.of (fun tq kq => XS.dup X396.here hx rfl (hb hby at_49) rfl rfl kq) ?_
  show OEnd p e below _ (T396.setTop (mkF m 50 #[.val (.int p0), .val (.int p1), .val (.int p2), .val (.int p3), .val (.int p4), .val (.ref b338), .unset, .unset, .unset, .unset, .unset] [(.ref b396), (.ref b396)]))
  refine OEnd.of (fun tq kq => XS.aload X396.here hx rfl (hb hby at_50) rfl rfl kq) ?_
  show OEnd p e below _ (T396.setTop (mkF m 52 #[.val (.int p0), .val (.int p1), .val (.int p2), .val (.int p3), .val (.int p4), .val (.ref b338), .unset, .unset, .unset, .unset, .unset] [(.ref b338), (.ref b396), (.ref b396)]))
  have K403 : Keep h391 h396 [] := ((Keep.refl h391 []).ext E396)
  have O404 : Ext Z.heap h396 := own_extKeep O398 K403 all0
  obtain ⟨_, _, ⟨T405, L405, k405, n405⟩, -, X405, ⟨Lc405, hQ405, l405, y405, z405⟩, st405⟩ := X396.specialBack hx (y := (⟨"java/lang/String", "<init>", "([C)V"⟩ : MethodName)) rfl hown (mvT hZ (hw _ (List.mem_of_getElem? (i := 8) rfl))) (mvT hZ (hw _ (List.mem_of_getElem? (i := 9) rfl))) (mvT hZ (hw _ (List.mem_of_getElem? (i := 10) rfl))) (by decide) (StrChars.Road.backV (W := 1) hZ (fun d hd => hw d (own_strWords d hd)) (kI := 4) (hw _ (List.mem_of_getElem? (i := 6) rfl)) (cs := [ch_344, ch_355, ch_366, ch_377, ch_388]) (bs := [ch_344, ch_355, ch_366, ch_377, ch_388].map (fun c => c.toInt8.toInt32)) (n := 5) (n0 := Z.heap.size) f396 O404.1 A396 F400 F399 (V392.keep K403 nin0) (Sta.ext O404 S_CS) hzc rfl rfl (by decide) (by decide) (List.forall_mem_cons.mpr ⟨hch_ch_344, (List.forall_mem_cons.mpr ⟨hch_ch_355, (List.forall_mem_cons.mpr ⟨hch_ch_366, (List.forall_mem_cons.mpr ⟨hch_ch_377, (List.forall_mem_cons.mpr ⟨hch_ch_388, (fun _ q => nomatch q)⟩)⟩)⟩)⟩)⟩) rfl (by decide) (by decide)) (g := (mkF m 52 #[.val (.int p0), .val (.int p1), .val (.int p2), .val (.int p3), .val (.int p4), .val (.ref b338), .unset, .unset, .unset, .unset, .unset] [(.ref b338), (.ref b396), (.ref b396)])) rfl (by rw [hml]; rfl) (Steps.refl _) (a := b396) (argsL := [(.ref b338)]) (rest := [(.ref b396)]) (lenOf pd_285bC29V rfl) rfl (by show 2 * 0 + _ ≤ _; exact Nat.le_of_eq rfl) (hb hby at_52) (fun _ _ => ⟨rfl, e396, (by decide : 2 + 1 ≤ _), (by decide : 9 + 5 ≤ _)⟩)
  dsimp only [Pt.U, Pt.locs, Pt.cells, Pt.slots] at X405 l405 y405 z405 st405 hQ405
  subst l405 y405 z405
  obtain ⟨h405, e405⟩ : ∃ z, T405.heap = z := ⟨_, rfl⟩
  rw [e405] at hQ405
  have Sf406 : Safe Z EL s.vm h396 b396 := own_safeNull hZ.alike A396 F400
  have lt407 : b396 < h396.size := (A396).lt
  obtain ⟨rfl, Nq405, Kq405, Ex405, Cd405, t405, kb405, f405, hh405, nx405, Vl405, Ar405⟩ := hQ405
  have N408 := Fr.app N393 Nq405
  have CR409 : CHr Z EL s.vm h396 s.vm h405 := CHr.keep Kq405 (allS Sf406 all0) HR402.1
  have HR410 : CHr Z EL s.vm h0 s.vm h405 := HR402.trans CR409
  have Sf411 : Safe Z EL s.vm h405 b396 := CR409.safe lt407 Sf406
  refine OEnd.of (fun tq kq => st405.trans kq) ?_
  show OEnd p e below _ (T405.setTop (mkF m 55 #[.val (.int p0), .val (.int p1), .val (.int p2), .val (.int p3), .val (.int p4), .val (.ref b338), .unset, .unset, .unset, .unset, .unset] [(.ref b396)]))
  have St412 : IsStr Z h405 b396 [ch_344, ch_355, ch_366, ch_377, ch_388] := ⟨Ex405, Cd405, ⟨t405, kb405, Vl405, Ar405⟩, (List.forall_mem_cons.mpr ⟨hch_ch_344, (List.forall_mem_cons.mpr ⟨hch_ch_355, (List.forall_mem_cons.mpr ⟨hch_ch_366, (List.forall_mem_cons.mpr ⟨hch_ch_377, (List.forall_mem_cons.mpr ⟨hch_ch_388, (fun _ q => nomatch q)⟩)⟩)⟩)⟩)⟩), Nat.le_of_ble_eq_true rfl⟩
  have K414 : Keep h396 h405 [b396] := ((Keep.refl h396 [b396]).trans Kq405 (allS (Or.inl (List.mem_of_getElem? (i := 0) rfl)) all0))
  have O415 : Ext Z.heap h405 := own_extKeep O404 K414 (allS f396 all0)
  obtain ⟨_, vq413, ⟨T413, L413, k413, n413⟩, -, X413, S413, G413, ⟨Lc413, hQ413, l413, y413, z413, C413⟩, st413⟩ := callSS X405 hx (y := (⟨"com/example/postil/postil/server/HeaderFields", "mediaType", "(Ljava/lang/String;)Ljava/lang/String;"⟩ : MethodName)) hown (mvT hZ (hw _ (List.mem_of_getElem? (i := 34) rfl))) (mvT hZ (hw _ (List.mem_of_getElem? (i := 35) rfl))) (mvT hZ (hw _ (List.mem_of_getElem? (i := 36) rfl))) (mvT hZ (hw _ (List.mem_of_getElem? (i := 37) rfl))) (by decide) (backOfSH (W := 0) (rmMt l Z a0 hw zc fm rt bl lg lv lk ci S_CS hzc S_SF h_fm S_RT E_rt F_bl E_bl F_lg E_lg F_lv A_lv S_CI E_ci hEL [] b396 [ch_344, ch_355, ch_366, ch_377, ch_388] h405 O415 St412 (Nat.le_of_ble_eq_true rfl)) hZ (hw _ (List.mem_of_getElem? (i := 37) rfl)) (hw _ (List.mem_of_getElem? (i := 36) rfl)) (by decide) (by decide) hEL HR410.1) (g := (mkF m 55 #[.val (.int p0), .val (.int p1), .val (.int p2), .val (.int p3), .val (.int p4), .val (.ref b338), .unset, .unset, .unset, .unset, .unset] [(.ref b396)])) rfl (by rw [hml]; rfl) (argsL := [(.ref b396)]) (rest := []) (lenOf pd_28Ljava2flang2fString3b29Ljava2flang2fString3b rfl) rfl (by show 2 * 0 + _ ≤ _; exact Nat.le_of_eq rfl) (hb hby at_55) (fun _ _ => ⟨rfl, e405, (by decide : 3 + 12 ≤ _), (by decide : 14 + 72 ≤ _)⟩)
  have K416 : Keep h0 h391 [] := (((((K342.wr W347 (Or.inr (Nat.le_of_eq g338.symm))).wr W358 (Or.inr (Nat.le_of_eq g338.symm))).wr W369 (Or.inr (Nat.le_of_eq g338.symm))).wr W380 (Or.inr (Nat.le_of_eq g338.symm))).wr W391 (Or.inr (Nat.le_of_eq g338.symm)))
  have K417 : Keep h0 h405 [] := (((((((K342.wr W347 (Or.inr (Nat.le_of_eq g338.symm))).wr W358 (Or.inr (Nat.le_of_eq g338.symm))).wr W369 (Or.inr (Nat.le_of_eq g338.symm))).wr W380 (Or.inr (Nat.le_of_eq g338.symm))).wr W391 (Or.inr (Nat.le_of_eq g338.symm))).ext E396).trans Kq405 (allS (Or.inr (Nat.le_trans K416.1 (Nat.le_of_eq g396.symm))) all0))
  dsimp only [Pt.U, Pt.locs, Pt.cells, Pt.slots] at X413 l413 y413 z413 st413 hQ413 S413 G413 C413
  subst l413 y413 z413
  obtain ⟨h413, e413⟩ : ∃ z, T413.heap = z := ⟨_, rfl⟩
  rw [e413] at hQ413 C413
  obtain ⟨r_418, pp_419, lf_420, rg_421, rfl, Nq413, Kq413, hSc_422, hTr_423, S_424⟩ := hQ413
  have N425 := Fr.app N408 Nq413
  obtain ⟨X413, S413, hZ413, hown413⟩ := rebS hS0 (by rw [e405]; exact (Nat.le_trans hk0 K417.1)) X413 S413 G413 hZ hown
  rw [e413] at S413
  have hk413 : h413.size ≤ h413.size := Nat.le_refl _
  have CR426 : CHr Z EL s.vm h405 T413.vm h413 := C413
  have HR427 : CHr Z EL s.vm h0 T413.vm h413 := HR410.trans CR426
  have Sf428 : Safe Z EL T413.vm h413 b396 := CR426.safe (Nat.lt_of_lt_of_le lt407 K414.1) Sf411
  refine OEnd.of (fun tq kq => st413.trans kq) ?_
  show OEnd p e below _ (T413.setTop (mkF m 58 #[.val (.int p0), .val (.int p1), .val (.int p2), .val (.int p3), .val (.int p4), .val (.ref b338), .unset, .unset, .unset, .unset, .unset] [(.ref r_418)]))
  have hcs5 : ∀ c ∈ [ch_344, ch_355, ch_366, ch_377, ch_388], ¬ c < 0 ∧ ¬ (255 : Int32) < c := (List.forall_mem_cons.mpr ⟨hch_ch_344, (List.forall_mem_cons.mpr ⟨hch_ch_355, (List.forall_mem_cons.mpr ⟨hch_ch_366, (List.forall_mem_cons.mpr ⟨hch_ch_377, (List.forall_mem_cons.mpr ⟨hch_ch_388, (fun _ q => nomatch q)⟩)⟩)⟩)⟩)⟩)
  have hF := own_Sc.fst (n := 5) hSc_422 rfl
  have hpp : pp_419 ≤ 5 := hF.1
  obtain ⟨hlen, hget⟩ := own_midGet (cs := [ch_344, ch_355, ch_366, ch_377, ch_388]) hpp hTr_423
  have hSd := S_424
  obtain ⟨ds, hds⟩ : ∃ z, z = (((([ch_344, ch_355, ch_366, ch_377, ch_388].take pp_419).drop lf_420).take (rg_421 - lf_420)).map own_low) := ⟨_, rfl⟩
  rw [← hds] at hlen hget hSd
  have hEr := hSd.1
  have hn8 : rg_421 - lf_420 ≤ 5 := by have := hTr_423.2.1; rw [List.length_take] at this; omega
  refine OEnd.of (fun tq kq => XS.astore X413.here hx rfl (hb hby at_58) rfl rfl (l' := #[.val (.int p0), .val (.int p1), .val (.int p2), .val (.int p3), .val (.int p4), .val (.ref b338), .val (.ref r_418), .unset, .unset, .unset, .unset]) rfl kq) ?_
  show OEnd p e below _ (T413.setTop (mkF m 60 #[.val (.int p0), .val (.int p1), .val (.int p2), .val (.int p3), .val (.int p4), .val (.ref b338), .val (.ref r_418), .unset, .unset, .unset, .unset] []))
  refine OEnd.of (fun tq kq => XS.iconst X413.here hx rfl (hb hby at_60) kq) ?_
  show OEnd p e below _ (T413.setTop (mkF m 61 #[.val (.int p0), .val (.int p1), .val (.int p2), .val (.int p3), .val (.int p4), .val (.ref b338), .val (.ref r_418), .unset, .unset, .unset, .unset] [(.int (5 : Int32))]))
  refine OEnd.of (fun tq kq => XS.istore X413.here hx rfl (hb hby at_61) rfl (l' := #[.val (.int p0), .val (.int p1), .val (.int p2), .val (.int p3), .val (.int p4), .val (.ref b338), .val (.ref r_418), .val (.int (5 : Int32)), .unset, .unset, .unset]) rfl kq) ?_
  show OEnd p e below _ (T413.setTop (mkF m 63 #[.val (.int p0), .val (.int p1), .val (.int p2), .val (.int p3), .val (.int p4), .val (.ref b338), .val (.ref r_418), .val (.int (5 : Int32)), .unset, .unset, .unset] []))
  have J429 : ∀ (vm429 : Vm) (T429 : State) (Lo429 : List Loc) (sq : Nat) (el : Nat), Stand p l e room_1 (s.setVm vm429) m #[(.int p0), (.int p1), (.int p2), (.int p3), (.int p4)] below meth c T429 Lo429 15 86 → T429.heap = h413 → Fr Z.heap.size Lo429 → (∃ k0, s.Since vm429 k0 ∧ k0 ≤ h413.size) → Z.Warmed39 (s.setVm vm429).vm → (s.setVm vm429).vm.findClass "com/example/postil/postil/server/HeaderFieldsMediaTypePinLaw" = some m.cls → CHr Z EL s.vm h0 vm429 h413 → (lf_420 < rg_421 → sq = lf_420) → OEnd p e below (GW s Z EL (Qrm0 Z zc fm rt bl lg lv lk ci p0 p1 p2 p3 p4 h0) 40 4288) (T429.setTop (mkF m 326 #[.val (.int p0), .val (.int p1), .val (.int p2), .val (.int p3), .val (.int p4), .val (.ref b338), .val (.ref r_418), .val (.int (Int32.ofNat pp_419)), .val (.int (Int32.ofNat sq)), .val (.int (Int32.ofNat el)), .val (.int (Int32.ofNat (rg_421 - lf_420)))] [])) := by
    rintro vm429 T429 Lo429 sq el X429 e429 N429 ⟨kk429, hS429, hk429⟩ hZ429 hown429 HR429 hsl
    show OEnd p e below _ (T429.setTop (mkF m 326 #[.val (.int p0), .val (.int p1), .val (.int p2), .val (.int p3), .val (.int p4), .val (.ref b338), .val (.ref r_418), .val (.int (Int32.ofNat pp_419)), .val (.int (Int32.ofNat sq)), .val (.int (Int32.ofNat el)), .val (.int (Int32.ofNat (rg_421 - lf_420)))] []))
    refine OEnd.of (fun tq kq => XS.aload X429.here hx rfl (hb hby at_326) rfl rfl kq) ?_
    show OEnd p e below _ (T429.setTop (mkF m 328 #[.val (.int p0), .val (.int p1), .val (.int p2), .val (.int p3), .val (.int p4), .val (.ref b338), .val (.ref r_418), .val (.int (Int32.ofNat pp_419)), .val (.int (Int32.ofNat sq)), .val (.int (Int32.ofNat el)), .val (.int (Int32.ofNat (rg_421 - lf_420)))] [(.ref r_418)]))
    have K431 : Keep h405 h413 [] := ((Keep.refl h405 []).trans Kq413 all0)
    have O432 : Ext Z.heap h413 := own_extKeep O415 K431 all0
    obtain ⟨cq430, kq430, q430a, q430b, q430c⟩ := isOf hZ429 e429 hEr
    obtain ⟨_, _, ⟨T430, L430, k430, n430⟩, -, X430, ⟨Lc430, hQ430, l430, y430, z430⟩, st430⟩ := X429.virtualBack hx (y := (⟨"java/lang/String", "length", "()I"⟩ : MethodName)) (z := (⟨"java/lang/String", "length", "()I"⟩ : MethodName)) hown429 (mvT hZ429 (hw _ (List.mem_of_getElem? (i := 117) rfl))) (mvT hZ429 (hw _ (List.mem_of_getElem? (i := 54) rfl))) (notFace_of_selects (args := #[]) (mvT hZ429 (hw _ (List.mem_of_getElem? (i := 56) rfl)))) (mvT hZ429 (hw _ (List.mem_of_getElem? (i := 56) rfl))) (mvT hZ429 (hw _ (List.mem_of_getElem? (i := 55) rfl))) (by decide) (backOf (W := 0) (rmLen l Z a0 hw zc fm rt bl lg lv lk ci S_CS hzc S_SF h_fm S_RT E_rt F_bl E_bl F_lg E_lg F_lv A_lv S_CI E_ci [] r_418 ds h413 O432 hSd) hZ429 (hw _ (List.mem_of_getElem? (i := 57) rfl)) (hw _ (List.mem_of_getElem? (i := 7) rfl)) (by decide) (by decide)) q430a q430c (g := (mkF m 328 #[.val (.int p0), .val (.int p1), .val (.int p2), .val (.int p3), .val (.int p4), .val (.ref b338), .val (.ref r_418), .val (.int (Int32.ofNat pp_419)), .val (.int (Int32.ofNat sq)), .val (.int (Int32.ofNat el)), .val (.int (Int32.ofNat (rg_421 - lf_420)))] [(.ref r_418)])) rfl (by rw [hml]; rfl) (Steps.refl _) (argsL := []) (rest := []) (lenOf pd_2829I rfl) rfl (by show 2 * 0 + _ ≤ _; exact Nat.le_of_eq rfl) (hb hby at_328) (fun _ _ => ⟨rfl, e429, (by decide : 15 + 0 ≤ _), (by decide : 86 + 0 ≤ _)⟩)
    dsimp only [Pt.U, Pt.locs, Pt.cells, Pt.slots] at X430 l430 y430 z430 st430 hQ430
    subst l430 y430 z430
    obtain ⟨rfl, Nq430, e430⟩ := hQ430
    have N433 := Fr.app N429 Nq430
    refine OEnd.of (fun tq kq => st430.trans kq) ?_
    show OEnd p e below _ (T430.setTop (mkF m 331 #[.val (.int p0), .val (.int p1), .val (.int p2), .val (.int p3), .val (.int p4), .val (.ref b338), .val (.ref r_418), .val (.int (Int32.ofNat pp_419)), .val (.int (Int32.ofNat sq)), .val (.int (Int32.ofNat el)), .val (.int (Int32.ofNat (rg_421 - lf_420)))] [(.int (Int32.ofNat ds.length))]))
    rw [show (Int32.ofNat ds.length) = (Int32.ofNat (rg_421 - lf_420)) from congrArg Int32.ofNat hlen]
    show OEnd p e below _ (T430.setTop (mkF m 331 #[.val (.int p0), .val (.int p1), .val (.int p2), .val (.int p3), .val (.int p4), .val (.ref b338), .val (.ref r_418), .val (.int (Int32.ofNat pp_419)), .val (.int (Int32.ofNat sq)), .val (.int (Int32.ofNat el)), .val (.int (Int32.ofNat (rg_421 - lf_420)))] [(.int (Int32.ofNat (rg_421 - lf_420)))]))
    refine OEnd.of (fun tq kq => XS.iload X430.here hx rfl (hb hby at_331) rfl kq) ?_
    show OEnd p e below _ (T430.setTop (mkF m 333 #[.val (.int p0), .val (.int p1), .val (.int p2), .val (.int p3), .val (.int p4), .val (.ref b338), .val (.ref r_418), .val (.int (Int32.ofNat pp_419)), .val (.int (Int32.ofNat sq)), .val (.int (Int32.ofNat el)), .val (.int (Int32.ofNat (rg_421 - lf_420)))] [(.int (Int32.ofNat (rg_421 - lf_420))), (.int (Int32.ofNat (rg_421 - lf_420)))]))
    refine OEnd.of (fun tq kq => XS.icmpYes X430.here hx rfl (pc0 := 333) (pc' := 338) rfl (hb hby at_333) rfl (teq rfl).1 (by decide) (by decide) kq) ?_
    show OEnd p e below _ (T430.setTop (mkF m 338 #[.val (.int p0), .val (.int p1), .val (.int p2), .val (.int p3), .val (.int p4), .val (.ref b338), .val (.ref r_418), .val (.int (Int32.ofNat pp_419)), .val (.int (Int32.ofNat sq)), .val (.int (Int32.ofNat el)), .val (.int (Int32.ofNat (rg_421 - lf_420)))] []))
    have K434 : Keep h391 h413 [] := ((K403.trans Kq405 (allS (Or.inr (Nat.le_of_eq g396.symm)) all0)).trans Kq413 all0)
    have hVm : Arv Z h413 b338 k338 .char (Int32.ofNat ([ch_344, ch_355, ch_366, ch_377, ch_388].length)) ([ch_344, ch_355, ch_366, ch_377, ch_388].map Value.int) (.int (0 : Int32)) := (V392.keep K434 nin0)
    refine OEnd.of (fun tq kq => XS.aload X430.here hx rfl (hb hby at_338) rfl rfl kq) ?_
    show OEnd p e below _ (T430.setTop (mkF m 340 #[.val (.int p0), .val (.int p1), .val (.int p2), .val (.int p3), .val (.int p4), .val (.ref b338), .val (.ref r_418), .val (.int (Int32.ofNat pp_419)), .val (.int (Int32.ofNat sq)), .val (.int (Int32.ofNat el)), .val (.int (Int32.ofNat (rg_421 - lf_420)))] [(.ref r_418)]))
    refine OEnd.of (fun tq kq => XS.iconst X430.here hx rfl (hb hby at_340) kq) ?_
    show OEnd p e below _ (T430.setTop (mkF m 341 #[.val (.int p0), .val (.int p1), .val (.int p2), .val (.int p3), .val (.int p4), .val (.ref b338), .val (.ref r_418), .val (.int (Int32.ofNat pp_419)), .val (.int (Int32.ofNat sq)), .val (.int (Int32.ofNat el)), .val (.int (Int32.ofNat (rg_421 - lf_420)))] [(.int (0 : Int32)), (.ref r_418)]))
    refine OEnd.of (fun tq kq => XS.iload X430.here hx rfl (hb hby at_341) rfl kq) ?_
    show OEnd p e below _ (T430.setTop (mkF m 343 #[.val (.int p0), .val (.int p1), .val (.int p2), .val (.int p3), .val (.int p4), .val (.ref b338), .val (.ref r_418), .val (.int (Int32.ofNat pp_419)), .val (.int (Int32.ofNat sq)), .val (.int (Int32.ofNat el)), .val (.int (Int32.ofNat (rg_421 - lf_420)))] [(.int (Int32.ofNat (rg_421 - lf_420))), (.int (0 : Int32)), (.ref r_418)]))
    refine OEnd.of (fun tq kq => XS.aload X430.here hx rfl (hb hby at_343) rfl rfl kq) ?_
    show OEnd p e below _ (T430.setTop (mkF m 345 #[.val (.int p0), .val (.int p1), .val (.int p2), .val (.int p3), .val (.int p4), .val (.ref b338), .val (.ref r_418), .val (.int (Int32.ofNat pp_419)), .val (.int (Int32.ofNat sq)), .val (.int (Int32.ofNat el)), .val (.int (Int32.ofNat (rg_421 - lf_420)))] [(.ref b338), (.int (Int32.ofNat (rg_421 - lf_420))), (.int (0 : Int32)), (.ref r_418)]))
    refine OEnd.of (fun tq kq => XS.iload X430.here hx rfl (hb hby at_345) rfl kq) ?_
    show OEnd p e below _ (T430.setTop (mkF m 347 #[.val (.int p0), .val (.int p1), .val (.int p2), .val (.int p3), .val (.int p4), .val (.ref b338), .val (.ref r_418), .val (.int (Int32.ofNat pp_419)), .val (.int (Int32.ofNat sq)), .val (.int (Int32.ofNat el)), .val (.int (Int32.ofNat (rg_421 - lf_420)))] [(.int (Int32.ofNat sq)), (.ref b338), (.int (Int32.ofNat (rg_421 - lf_420))), (.int (0 : Int32)), (.ref r_418)]))
    obtain ⟨_, _, ⟨T435, L435, k435, n435⟩, -, X435, ⟨Lc435, hQ435, l435, y435, z435⟩, st435⟩ := Jvm.LawKit.callS X430 hx (y := (⟨"com/example/postil/postil/server/HeaderFieldsMediaTypePinLaw", "at", "(Ljava/lang/String;II[CI)Z"⟩ : MethodName)) hown429 (mvT hZ429 (hw _ (List.mem_of_getElem? (i := 118) rfl))) (mvT hZ429 (hw _ (List.mem_of_getElem? (i := 119) rfl))) (mvT hZ429 (hw _ (List.mem_of_getElem? (i := 3) rfl))) (mvT hZ429 (hw _ (List.mem_of_getElem? (i := 120) rfl))) (by decide) (backOf (W := 0) (rmAt l Z a0 hw zc fm rt bl lg lv lk ci S_CS hzc S_SF h_fm S_RT E_rt F_bl E_bl F_lg E_lg F_lv A_lv S_CI E_ci [] r_418 ds 0 (rg_421 - lf_420) b338 k338 [ch_344, ch_355, ch_366, ch_377, ch_388] sq h413 O432 hSd hVm (Nat.le_of_ble_eq_true rfl) hcs5 (by decide) (Nat.le_trans hn8 (by decide)) hlen (fun q => by rw [hsl (by omega)]; exact hget _ q)) hZ429 (hw _ (List.mem_of_getElem? (i := 120) rfl)) (hw _ (List.mem_of_getElem? (i := 3) rfl)) (by decide) (by decide)) (g := (mkF m 347 #[.val (.int p0), .val (.int p1), .val (.int p2), .val (.int p3), .val (.int p4), .val (.ref b338), .val (.ref r_418), .val (.int (Int32.ofNat pp_419)), .val (.int (Int32.ofNat sq)), .val (.int (Int32.ofNat el)), .val (.int (Int32.ofNat (rg_421 - lf_420)))] [(.int (Int32.ofNat sq)), (.ref b338), (.int (Int32.ofNat (rg_421 - lf_420))), (.int (0 : Int32)), (.ref r_418)])) rfl (by rw [hml]; rfl) (argsL := [(.ref r_418), (.int (0 : Int32)), (.int (Int32.ofNat (rg_421 - lf_420))), (.ref b338), (.int (Int32.ofNat sq))]) (rest := []) (lenOf pd_28Ljava2flang2fString3bII5bCI29Z rfl) rfl (by show 2 * 0 + _ ≤ _; exact Nat.le_of_eq rfl) (hb hby at_347) (fun _ _ => ⟨rfl, e430, (by decide : 15 + 0 ≤ _), (by decide : 86 + 0 ≤ _)⟩)
    dsimp only [Pt.U, Pt.locs, Pt.cells, Pt.slots] at X435 l435 y435 z435 st435 hQ435
    subst l435 y435 z435
    obtain ⟨rfl, Nq435, e435⟩ := hQ435
    have N436 := Fr.app N433 Nq435
    refine OEnd.of st435 ?_
    show OEnd p e below _ (T435.setTop (mkF m 350 #[.val (.int p0), .val (.int p1), .val (.int p2), .val (.int p3), .val (.int p4), .val (.ref b338), .val (.ref r_418), .val (.int (Int32.ofNat pp_419)), .val (.int (Int32.ofNat sq)), .val (.int (Int32.ofNat el)), .val (.int (Int32.ofNat (rg_421 - lf_420)))] [(.int (1 : Int32))]))
    refine OEnd.of (fun tq kq => XS.ifNo X435.here hx rfl (hb hby at_350) rfl ((if0 _ _).trans (feq (by decide : ¬ ((1 : Int32) = (0 : Int32)))).1) kq) ?_
    show OEnd p e below _ (T435.setTop (mkF m 353 #[.val (.int p0), .val (.int p1), .val (.int p2), .val (.int p3), .val (.int p4), .val (.ref b338), .val (.ref r_418), .val (.int (Int32.ofNat pp_419)), .val (.int (Int32.ofNat sq)), .val (.int (Int32.ofNat el)), .val (.int (Int32.ofNat (rg_421 - lf_420)))] []))
    refine OEnd.of (fun tq kq => XS.aload X435.here hx rfl (hb hby at_353) rfl rfl kq) ?_
    show OEnd p e below _ (T435.setTop (mkF m 355 #[.val (.int p0), .val (.int p1), .val (.int p2), .val (.int p3), .val (.int p4), .val (.ref b338), .val (.ref r_418), .val (.int (Int32.ofNat pp_419)), .val (.int (Int32.ofNat sq)), .val (.int (Int32.ofNat el)), .val (.int (Int32.ofNat (rg_421 - lf_420)))] [(.ref r_418)]))
    refine OEnd.of (fun tq kq => XS.iconst X435.here hx rfl (hb hby at_355) kq) ?_
    show OEnd p e below _ (T435.setTop (mkF m 356 #[.val (.int p0), .val (.int p1), .val (.int p2), .val (.int p3), .val (.int p4), .val (.ref b338), .val (.ref r_418), .val (.int (Int32.ofNat pp_419)), .val (.int (Int32.ofNat sq)), .val (.int (Int32.ofNat el)), .val (.int (Int32.ofNat (rg_421 - lf_420)))] [(.int (1 : Int32)), (.ref r_418)]))
    refine OEnd.of (fun tq kq => XS.iload X435.here hx rfl (hb hby at_356) rfl kq) ?_
    show OEnd p e below _ (T435.setTop (mkF m 358 #[.val (.int p0), .val (.int p1), .val (.int p2), .val (.int p3), .val (.int p4), .val (.ref b338), .val (.ref r_418), .val (.int (Int32.ofNat pp_419)), .val (.int (Int32.ofNat sq)), .val (.int (Int32.ofNat el)), .val (.int (Int32.ofNat (rg_421 - lf_420)))] [(.int (Int32.ofNat (rg_421 - lf_420))), (.int (1 : Int32)), (.ref r_418)]))
    refine OEnd.of (fun tq kq => XS.aload X435.here hx rfl (hb hby at_358) rfl rfl kq) ?_
    show OEnd p e below _ (T435.setTop (mkF m 360 #[.val (.int p0), .val (.int p1), .val (.int p2), .val (.int p3), .val (.int p4), .val (.ref b338), .val (.ref r_418), .val (.int (Int32.ofNat pp_419)), .val (.int (Int32.ofNat sq)), .val (.int (Int32.ofNat el)), .val (.int (Int32.ofNat (rg_421 - lf_420)))] [(.ref b338), (.int (Int32.ofNat (rg_421 - lf_420))), (.int (1 : Int32)), (.ref r_418)]))
    refine OEnd.of (fun tq kq => XS.iload X435.here hx rfl (hb hby at_360) rfl kq) ?_
    show OEnd p e below _ (T435.setTop (mkF m 362 #[.val (.int p0), .val (.int p1), .val (.int p2), .val (.int p3), .val (.int p4), .val (.ref b338), .val (.ref r_418), .val (.int (Int32.ofNat pp_419)), .val (.int (Int32.ofNat sq)), .val (.int (Int32.ofNat el)), .val (.int (Int32.ofNat (rg_421 - lf_420)))] [(.int (Int32.ofNat sq)), (.ref b338), (.int (Int32.ofNat (rg_421 - lf_420))), (.int (1 : Int32)), (.ref r_418)]))
    obtain ⟨_, _, ⟨T437, L437, k437, n437⟩, -, X437, ⟨Lc437, hQ437, l437, y437, z437⟩, st437⟩ := Jvm.LawKit.callS X435 hx (y := (⟨"com/example/postil/postil/server/HeaderFieldsMediaTypePinLaw", "at", "(Ljava/lang/String;II[CI)Z"⟩ : MethodName)) hown429 (mvT hZ429 (hw _ (List.mem_of_getElem? (i := 118) rfl))) (mvT hZ429 (hw _ (List.mem_of_getElem? (i := 119) rfl))) (mvT hZ429 (hw _ (List.mem_of_getElem? (i := 3) rfl))) (mvT hZ429 (hw _ (List.mem_of_getElem? (i := 120) rfl))) (by decide) (backOf (W := 0) (rmAt l Z a0 hw zc fm rt bl lg lv lk ci S_CS hzc S_SF h_fm S_RT E_rt F_bl E_bl F_lg E_lg F_lv A_lv S_CI E_ci [] r_418 ds 1 (rg_421 - lf_420) b338 k338 [ch_344, ch_355, ch_366, ch_377, ch_388] sq h413 O432 hSd hVm (Nat.le_of_ble_eq_true rfl) hcs5 (by decide) (Nat.le_trans hn8 (by decide)) hlen (fun q => by rw [hsl (by omega)]; exact hget _ q)) hZ429 (hw _ (List.mem_of_getElem? (i := 120) rfl)) (hw _ (List.mem_of_getElem? (i := 3) rfl)) (by decide) (by decide)) (g := (mkF m 362 #[.val (.int p0), .val (.int p1), .val (.int p2), .val (.int p3), .val (.int p4), .val (.ref b338), .val (.ref r_418), .val (.int (Int32.ofNat pp_419)), .val (.int (Int32.ofNat sq)), .val (.int (Int32.ofNat el)), .val (.int (Int32.ofNat (rg_421 - lf_420)))] [(.int (Int32.ofNat sq)), (.ref b338), (.int (Int32.ofNat (rg_421 - lf_420))), (.int (1 : Int32)), (.ref r_418)])) rfl (by rw [hml]; rfl) (argsL := [(.ref r_418), (.int (1 : Int32)), (.int (Int32.ofNat (rg_421 - lf_420))), (.ref b338), (.int (Int32.ofNat sq))]) (rest := []) (lenOf pd_28Ljava2flang2fString3bII5bCI29Z rfl) rfl (by show 2 * 0 + _ ≤ _; exact Nat.le_of_eq rfl) (hb hby at_362) (fun _ _ => ⟨rfl, e435, (by decide : 15 + 0 ≤ _), (by decide : 86 + 0 ≤ _)⟩)
    dsimp only [Pt.U, Pt.locs, Pt.cells, Pt.slots] at X437 l437 y437 z437 st437 hQ437
    subst l437 y437 z437
    obtain ⟨rfl, Nq437, e437⟩ := hQ437
    have N438 := Fr.app N436 Nq437
    refine OEnd.of st437 ?_
    show OEnd p e below _ (T437.setTop (mkF m 365 #[.val (.int p0), .val (.int p1), .val (.int p2), .val (.int p3), .val (.int p4), .val (.ref b338), .val (.ref r_418), .val (.int (Int32.ofNat pp_419)), .val (.int (Int32.ofNat sq)), .val (.int (Int32.ofNat el)), .val (.int (Int32.ofNat (rg_421 - lf_420)))] [(.int (1 : Int32))]))
    refine OEnd.of (fun tq kq => XS.ifNo X437.here hx rfl (hb hby at_365) rfl ((if0 _ _).trans (feq (by decide : ¬ ((1 : Int32) = (0 : Int32)))).1) kq) ?_
    show OEnd p e below _ (T437.setTop (mkF m 368 #[.val (.int p0), .val (.int p1), .val (.int p2), .val (.int p3), .val (.int p4), .val (.ref b338), .val (.ref r_418), .val (.int (Int32.ofNat pp_419)), .val (.int (Int32.ofNat sq)), .val (.int (Int32.ofNat el)), .val (.int (Int32.ofNat (rg_421 - lf_420)))] []))
    refine OEnd.of (fun tq kq => XS.aload X437.here hx rfl (hb hby at_368) rfl rfl kq) ?_
    show OEnd p e below _ (T437.setTop (mkF m 370 #[.val (.int p0), .val (.int p1), .val (.int p2), .val (.int p3), .val (.int p4), .val (.ref b338), .val (.ref r_418), .val (.int (Int32.ofNat pp_419)), .val (.int (Int32.ofNat sq)), .val (.int (Int32.ofNat el)), .val (.int (Int32.ofNat (rg_421 - lf_420)))] [(.ref r_418)]))
    refine OEnd.of (fun tq kq => XS.iconst X437.here hx rfl (hb hby at_370) kq) ?_
    show OEnd p e below _ (T437.setTop (mkF m 371 #[.val (.int p0), .val (.int p1), .val (.int p2), .val (.int p3), .val (.int p4), .val (.ref b338), .val (.ref r_418), .val (.int (Int32.ofNat pp_419)), .val (.int (Int32.ofNat sq)), .val (.int (Int32.ofNat el)), .val (.int (Int32.ofNat (rg_421 - lf_420)))] [(.int (2 : Int32)), (.ref r_418)]))
    refine OEnd.of (fun tq kq => XS.iload X437.here hx rfl (hb hby at_371) rfl kq) ?_
    show OEnd p e below _ (T437.setTop (mkF m 373 #[.val (.int p0), .val (.int p1), .val (.int p2), .val (.int p3), .val (.int p4), .val (.ref b338), .val (.ref r_418), .val (.int (Int32.ofNat pp_419)), .val (.int (Int32.ofNat sq)), .val (.int (Int32.ofNat el)), .val (.int (Int32.ofNat (rg_421 - lf_420)))] [(.int (Int32.ofNat (rg_421 - lf_420))), (.int (2 : Int32)), (.ref r_418)]))
    refine OEnd.of (fun tq kq => XS.aload X437.here hx rfl (hb hby at_373) rfl rfl kq) ?_
    show OEnd p e below _ (T437.setTop (mkF m 375 #[.val (.int p0), .val (.int p1), .val (.int p2), .val (.int p3), .val (.int p4), .val (.ref b338), .val (.ref r_418), .val (.int (Int32.ofNat pp_419)), .val (.int (Int32.ofNat sq)), .val (.int (Int32.ofNat el)), .val (.int (Int32.ofNat (rg_421 - lf_420)))] [(.ref b338), (.int (Int32.ofNat (rg_421 - lf_420))), (.int (2 : Int32)), (.ref r_418)]))
    refine OEnd.of (fun tq kq => XS.iload X437.here hx rfl (hb hby at_375) rfl kq) ?_
    show OEnd p e below _ (T437.setTop (mkF m 377 #[.val (.int p0), .val (.int p1), .val (.int p2), .val (.int p3), .val (.int p4), .val (.ref b338), .val (.ref r_418), .val (.int (Int32.ofNat pp_419)), .val (.int (Int32.ofNat sq)), .val (.int (Int32.ofNat el)), .val (.int (Int32.ofNat (rg_421 - lf_420)))] [(.int (Int32.ofNat sq)), (.ref b338), (.int (Int32.ofNat (rg_421 - lf_420))), (.int (2 : Int32)), (.ref r_418)]))
    obtain ⟨_, _, ⟨T439, L439, k439, n439⟩, -, X439, ⟨Lc439, hQ439, l439, y439, z439⟩, st439⟩ := Jvm.LawKit.callS X437 hx (y := (⟨"com/example/postil/postil/server/HeaderFieldsMediaTypePinLaw", "at", "(Ljava/lang/String;II[CI)Z"⟩ : MethodName)) hown429 (mvT hZ429 (hw _ (List.mem_of_getElem? (i := 118) rfl))) (mvT hZ429 (hw _ (List.mem_of_getElem? (i := 119) rfl))) (mvT hZ429 (hw _ (List.mem_of_getElem? (i := 3) rfl))) (mvT hZ429 (hw _ (List.mem_of_getElem? (i := 120) rfl))) (by decide) (backOf (W := 0) (rmAt l Z a0 hw zc fm rt bl lg lv lk ci S_CS hzc S_SF h_fm S_RT E_rt F_bl E_bl F_lg E_lg F_lv A_lv S_CI E_ci [] r_418 ds 2 (rg_421 - lf_420) b338 k338 [ch_344, ch_355, ch_366, ch_377, ch_388] sq h413 O432 hSd hVm (Nat.le_of_ble_eq_true rfl) hcs5 (by decide) (Nat.le_trans hn8 (by decide)) hlen (fun q => by rw [hsl (by omega)]; exact hget _ q)) hZ429 (hw _ (List.mem_of_getElem? (i := 120) rfl)) (hw _ (List.mem_of_getElem? (i := 3) rfl)) (by decide) (by decide)) (g := (mkF m 377 #[.val (.int p0), .val (.int p1), .val (.int p2), .val (.int p3), .val (.int p4), .val (.ref b338), .val (.ref r_418), .val (.int (Int32.ofNat pp_419)), .val (.int (Int32.ofNat sq)), .val (.int (Int32.ofNat el)), .val (.int (Int32.ofNat (rg_421 - lf_420)))] [(.int (Int32.ofNat sq)), (.ref b338), (.int (Int32.ofNat (rg_421 - lf_420))), (.int (2 : Int32)), (.ref r_418)])) rfl (by rw [hml]; rfl) (argsL := [(.ref r_418), (.int (2 : Int32)), (.int (Int32.ofNat (rg_421 - lf_420))), (.ref b338), (.int (Int32.ofNat sq))]) (rest := []) (lenOf pd_28Ljava2flang2fString3bII5bCI29Z rfl) rfl (by show 2 * 0 + _ ≤ _; exact Nat.le_of_eq rfl) (hb hby at_377) (fun _ _ => ⟨rfl, e437, (by decide : 15 + 0 ≤ _), (by decide : 86 + 0 ≤ _)⟩)
    dsimp only [Pt.U, Pt.locs, Pt.cells, Pt.slots] at X439 l439 y439 z439 st439 hQ439
    subst l439 y439 z439
    obtain ⟨rfl, Nq439, e439⟩ := hQ439
    have N440 := Fr.app N438 Nq439
    refine OEnd.of st439 ?_
    show OEnd p e below _ (T439.setTop (mkF m 380 #[.val (.int p0), .val (.int p1), .val (.int p2), .val (.int p3), .val (.int p4), .val (.ref b338), .val (.ref r_418), .val (.int (Int32.ofNat pp_419)), .val (.int (Int32.ofNat sq)), .val (.int (Int32.ofNat el)), .val (.int (Int32.ofNat (rg_421 - lf_420)))] [(.int (1 : Int32))]))
    refine OEnd.of (fun tq kq => XS.ifNo X439.here hx rfl (hb hby at_380) rfl ((if0 _ _).trans (feq (by decide : ¬ ((1 : Int32) = (0 : Int32)))).1) kq) ?_
    show OEnd p e below _ (T439.setTop (mkF m 383 #[.val (.int p0), .val (.int p1), .val (.int p2), .val (.int p3), .val (.int p4), .val (.ref b338), .val (.ref r_418), .val (.int (Int32.ofNat pp_419)), .val (.int (Int32.ofNat sq)), .val (.int (Int32.ofNat el)), .val (.int (Int32.ofNat (rg_421 - lf_420)))] []))
    refine OEnd.of (fun tq kq => XS.aload X439.here hx rfl (hb hby at_383) rfl rfl kq) ?_
    show OEnd p e below _ (T439.setTop (mkF m 385 #[.val (.int p0), .val (.int p1), .val (.int p2), .val (.int p3), .val (.int p4), .val (.ref b338), .val (.ref r_418), .val (.int (Int32.ofNat pp_419)), .val (.int (Int32.ofNat sq)), .val (.int (Int32.ofNat el)), .val (.int (Int32.ofNat (rg_421 - lf_420)))] [(.ref r_418)]))
    refine OEnd.of (fun tq kq => XS.iconst X439.here hx rfl (hb hby at_385) kq) ?_
    show OEnd p e below _ (T439.setTop (mkF m 386 #[.val (.int p0), .val (.int p1), .val (.int p2), .val (.int p3), .val (.int p4), .val (.ref b338), .val (.ref r_418), .val (.int (Int32.ofNat pp_419)), .val (.int (Int32.ofNat sq)), .val (.int (Int32.ofNat el)), .val (.int (Int32.ofNat (rg_421 - lf_420)))] [(.int (3 : Int32)), (.ref r_418)]))
    refine OEnd.of (fun tq kq => XS.iload X439.here hx rfl (hb hby at_386) rfl kq) ?_
    show OEnd p e below _ (T439.setTop (mkF m 388 #[.val (.int p0), .val (.int p1), .val (.int p2), .val (.int p3), .val (.int p4), .val (.ref b338), .val (.ref r_418), .val (.int (Int32.ofNat pp_419)), .val (.int (Int32.ofNat sq)), .val (.int (Int32.ofNat el)), .val (.int (Int32.ofNat (rg_421 - lf_420)))] [(.int (Int32.ofNat (rg_421 - lf_420))), (.int (3 : Int32)), (.ref r_418)]))
    refine OEnd.of (fun tq kq => XS.aload X439.here hx rfl (hb hby at_388) rfl rfl kq) ?_
    show OEnd p e below _ (T439.setTop (mkF m 390 #[.val (.int p0), .val (.int p1), .val (.int p2), .val (.int p3), .val (.int p4), .val (.ref b338), .val (.ref r_418), .val (.int (Int32.ofNat pp_419)), .val (.int (Int32.ofNat sq)), .val (.int (Int32.ofNat el)), .val (.int (Int32.ofNat (rg_421 - lf_420)))] [(.ref b338), (.int (Int32.ofNat (rg_421 - lf_420))), (.int (3 : Int32)), (.ref r_418)]))
    refine OEnd.of (fun tq kq => XS.iload X439.here hx rfl (hb hby at_390) rfl kq) ?_
    show OEnd p e below _ (T439.setTop (mkF m 392 #[.val (.int p0), .val (.int p1), .val (.int p2), .val (.int p3), .val (.int p4), .val (.ref b338), .val (.ref r_418), .val (.int (Int32.ofNat pp_419)), .val (.int (Int32.ofNat sq)), .val (.int (Int32.ofNat el)), .val (.int (Int32.ofNat (rg_421 - lf_420)))] [(.int (Int32.ofNat sq)), (.ref b338), (.int (Int32.ofNat (rg_421 - lf_420))), (.int (3 : Int32)), (.ref r_418)]))
    obtain ⟨_, _, ⟨T441, L441, k441, n441⟩, -, X441, ⟨Lc441, hQ441, l441, y441, z441⟩, st441⟩ := Jvm.LawKit.callS X439 hx (y := (⟨"com/example/postil/postil/server/HeaderFieldsMediaTypePinLaw", "at", "(Ljava/lang/String;II[CI)Z"⟩ : MethodName)) hown429 (mvT hZ429 (hw _ (List.mem_of_getElem? (i := 118) rfl))) (mvT hZ429 (hw _ (List.mem_of_getElem? (i := 119) rfl))) (mvT hZ429 (hw _ (List.mem_of_getElem? (i := 3) rfl))) (mvT hZ429 (hw _ (List.mem_of_getElem? (i := 120) rfl))) (by decide) (backOf (W := 0) (rmAt l Z a0 hw zc fm rt bl lg lv lk ci S_CS hzc S_SF h_fm S_RT E_rt F_bl E_bl F_lg E_lg F_lv A_lv S_CI E_ci [] r_418 ds 3 (rg_421 - lf_420) b338 k338 [ch_344, ch_355, ch_366, ch_377, ch_388] sq h413 O432 hSd hVm (Nat.le_of_ble_eq_true rfl) hcs5 (by decide) (Nat.le_trans hn8 (by decide)) hlen (fun q => by rw [hsl (by omega)]; exact hget _ q)) hZ429 (hw _ (List.mem_of_getElem? (i := 120) rfl)) (hw _ (List.mem_of_getElem? (i := 3) rfl)) (by decide) (by decide)) (g := (mkF m 392 #[.val (.int p0), .val (.int p1), .val (.int p2), .val (.int p3), .val (.int p4), .val (.ref b338), .val (.ref r_418), .val (.int (Int32.ofNat pp_419)), .val (.int (Int32.ofNat sq)), .val (.int (Int32.ofNat el)), .val (.int (Int32.ofNat (rg_421 - lf_420)))] [(.int (Int32.ofNat sq)), (.ref b338), (.int (Int32.ofNat (rg_421 - lf_420))), (.int (3 : Int32)), (.ref r_418)])) rfl (by rw [hml]; rfl) (argsL := [(.ref r_418), (.int (3 : Int32)), (.int (Int32.ofNat (rg_421 - lf_420))), (.ref b338), (.int (Int32.ofNat sq))]) (rest := []) (lenOf pd_28Ljava2flang2fString3bII5bCI29Z rfl) rfl (by show 2 * 0 + _ ≤ _; exact Nat.le_of_eq rfl) (hb hby at_392) (fun _ _ => ⟨rfl, e439, (by decide : 15 + 0 ≤ _), (by decide : 86 + 0 ≤ _)⟩)
    dsimp only [Pt.U, Pt.locs, Pt.cells, Pt.slots] at X441 l441 y441 z441 st441 hQ441
    subst l441 y441 z441
    obtain ⟨rfl, Nq441, e441⟩ := hQ441
    have N442 := Fr.app N440 Nq441
    refine OEnd.of st441 ?_
    show OEnd p e below _ (T441.setTop (mkF m 395 #[.val (.int p0), .val (.int p1), .val (.int p2), .val (.int p3), .val (.int p4), .val (.ref b338), .val (.ref r_418), .val (.int (Int32.ofNat pp_419)), .val (.int (Int32.ofNat sq)), .val (.int (Int32.ofNat el)), .val (.int (Int32.ofNat (rg_421 - lf_420)))] [(.int (1 : Int32))]))
    refine OEnd.of (fun tq kq => XS.ifNo X441.here hx rfl (hb hby at_395) rfl ((if0 _ _).trans (feq (by decide : ¬ ((1 : Int32) = (0 : Int32)))).1) kq) ?_
    show OEnd p e below _ (T441.setTop (mkF m 398 #[.val (.int p0), .val (.int p1), .val (.int p2), .val (.int p3), .val (.int p4), .val (.ref b338), .val (.ref r_418), .val (.int (Int32.ofNat pp_419)), .val (.int (Int32.ofNat sq)), .val (.int (Int32.ofNat el)), .val (.int (Int32.ofNat (rg_421 - lf_420)))] []))
    refine OEnd.of (fun tq kq => XS.aload X441.here hx rfl (hb hby at_398) rfl rfl kq) ?_
    show OEnd p e below _ (T441.setTop (mkF m 400 #[.val (.int p0), .val (.int p1), .val (.int p2), .val (.int p3), .val (.int p4), .val (.ref b338), .val (.ref r_418), .val (.int (Int32.ofNat pp_419)), .val (.int (Int32.ofNat sq)), .val (.int (Int32.ofNat el)), .val (.int (Int32.ofNat (rg_421 - lf_420)))] [(.ref r_418)]))
    refine OEnd.of (fun tq kq => XS.iconst X441.here hx rfl (hb hby at_400) kq) ?_
    show OEnd p e below _ (T441.setTop (mkF m 401 #[.val (.int p0), .val (.int p1), .val (.int p2), .val (.int p3), .val (.int p4), .val (.ref b338), .val (.ref r_418), .val (.int (Int32.ofNat pp_419)), .val (.int (Int32.ofNat sq)), .val (.int (Int32.ofNat el)), .val (.int (Int32.ofNat (rg_421 - lf_420)))] [(.int (4 : Int32)), (.ref r_418)]))
    refine OEnd.of (fun tq kq => XS.iload X441.here hx rfl (hb hby at_401) rfl kq) ?_
    show OEnd p e below _ (T441.setTop (mkF m 403 #[.val (.int p0), .val (.int p1), .val (.int p2), .val (.int p3), .val (.int p4), .val (.ref b338), .val (.ref r_418), .val (.int (Int32.ofNat pp_419)), .val (.int (Int32.ofNat sq)), .val (.int (Int32.ofNat el)), .val (.int (Int32.ofNat (rg_421 - lf_420)))] [(.int (Int32.ofNat (rg_421 - lf_420))), (.int (4 : Int32)), (.ref r_418)]))
    refine OEnd.of (fun tq kq => XS.aload X441.here hx rfl (hb hby at_403) rfl rfl kq) ?_
    show OEnd p e below _ (T441.setTop (mkF m 405 #[.val (.int p0), .val (.int p1), .val (.int p2), .val (.int p3), .val (.int p4), .val (.ref b338), .val (.ref r_418), .val (.int (Int32.ofNat pp_419)), .val (.int (Int32.ofNat sq)), .val (.int (Int32.ofNat el)), .val (.int (Int32.ofNat (rg_421 - lf_420)))] [(.ref b338), (.int (Int32.ofNat (rg_421 - lf_420))), (.int (4 : Int32)), (.ref r_418)]))
    refine OEnd.of (fun tq kq => XS.iload X441.here hx rfl (hb hby at_405) rfl kq) ?_
    show OEnd p e below _ (T441.setTop (mkF m 407 #[.val (.int p0), .val (.int p1), .val (.int p2), .val (.int p3), .val (.int p4), .val (.ref b338), .val (.ref r_418), .val (.int (Int32.ofNat pp_419)), .val (.int (Int32.ofNat sq)), .val (.int (Int32.ofNat el)), .val (.int (Int32.ofNat (rg_421 - lf_420)))] [(.int (Int32.ofNat sq)), (.ref b338), (.int (Int32.ofNat (rg_421 - lf_420))), (.int (4 : Int32)), (.ref r_418)]))
    obtain ⟨_, _, ⟨T443, L443, k443, n443⟩, -, X443, ⟨Lc443, hQ443, l443, y443, z443⟩, st443⟩ := Jvm.LawKit.callS X441 hx (y := (⟨"com/example/postil/postil/server/HeaderFieldsMediaTypePinLaw", "at", "(Ljava/lang/String;II[CI)Z"⟩ : MethodName)) hown429 (mvT hZ429 (hw _ (List.mem_of_getElem? (i := 118) rfl))) (mvT hZ429 (hw _ (List.mem_of_getElem? (i := 119) rfl))) (mvT hZ429 (hw _ (List.mem_of_getElem? (i := 3) rfl))) (mvT hZ429 (hw _ (List.mem_of_getElem? (i := 120) rfl))) (by decide) (backOf (W := 0) (rmAt l Z a0 hw zc fm rt bl lg lv lk ci S_CS hzc S_SF h_fm S_RT E_rt F_bl E_bl F_lg E_lg F_lv A_lv S_CI E_ci [] r_418 ds 4 (rg_421 - lf_420) b338 k338 [ch_344, ch_355, ch_366, ch_377, ch_388] sq h413 O432 hSd hVm (Nat.le_of_ble_eq_true rfl) hcs5 (by decide) (Nat.le_trans hn8 (by decide)) hlen (fun q => by rw [hsl (by omega)]; exact hget _ q)) hZ429 (hw _ (List.mem_of_getElem? (i := 120) rfl)) (hw _ (List.mem_of_getElem? (i := 3) rfl)) (by decide) (by decide)) (g := (mkF m 407 #[.val (.int p0), .val (.int p1), .val (.int p2), .val (.int p3), .val (.int p4), .val (.ref b338), .val (.ref r_418), .val (.int (Int32.ofNat pp_419)), .val (.int (Int32.ofNat sq)), .val (.int (Int32.ofNat el)), .val (.int (Int32.ofNat (rg_421 - lf_420)))] [(.int (Int32.ofNat sq)), (.ref b338), (.int (Int32.ofNat (rg_421 - lf_420))), (.int (4 : Int32)), (.ref r_418)])) rfl (by rw [hml]; rfl) (argsL := [(.ref r_418), (.int (4 : Int32)), (.int (Int32.ofNat (rg_421 - lf_420))), (.ref b338), (.int (Int32.ofNat sq))]) (rest := []) (lenOf pd_28Ljava2flang2fString3bII5bCI29Z rfl) rfl (by show 2 * 0 + _ ≤ _; exact Nat.le_of_eq rfl) (hb hby at_407) (fun _ _ => ⟨rfl, e441, (by decide : 15 + 0 ≤ _), (by decide : 86 + 0 ≤ _)⟩)
    dsimp only [Pt.U, Pt.locs, Pt.cells, Pt.slots] at X443 l443 y443 z443 st443 hQ443
    subst l443 y443 z443
    obtain ⟨rfl, Nq443, e443⟩ := hQ443
    have N444 := Fr.app N442 Nq443
    refine OEnd.of st443 ?_
    show OEnd p e below _ (T443.setTop (mkF m 410 #[.val (.int p0), .val (.int p1), .val (.int p2), .val (.int p3), .val (.int p4), .val (.ref b338), .val (.ref r_418), .val (.int (Int32.ofNat pp_419)), .val (.int (Int32.ofNat sq)), .val (.int (Int32.ofNat el)), .val (.int (Int32.ofNat (rg_421 - lf_420)))] [(.int (1 : Int32))]))
    refine OEnd.of (fun tq kq => XS.ifNo X443.here hx rfl (hb hby at_410) rfl ((if0 _ _).trans (feq (by decide : ¬ ((1 : Int32) = (0 : Int32)))).1) kq) ?_
    show OEnd p e below _ (T443.setTop (mkF m 413 #[.val (.int p0), .val (.int p1), .val (.int p2), .val (.int p3), .val (.int p4), .val (.ref b338), .val (.ref r_418), .val (.int (Int32.ofNat pp_419)), .val (.int (Int32.ofNat sq)), .val (.int (Int32.ofNat el)), .val (.int (Int32.ofNat (rg_421 - lf_420)))] []))
    refine OEnd.of (fun tq kq => XS.iconst X443.here hx rfl (hb hby at_413) kq) ?_
    show OEnd p e below _ (T443.setTop (mkF m 414 #[.val (.int p0), .val (.int p1), .val (.int p2), .val (.int p3), .val (.int p4), .val (.ref b338), .val (.ref r_418), .val (.int (Int32.ofNat pp_419)), .val (.int (Int32.ofNat sq)), .val (.int (Int32.ofNat el)), .val (.int (Int32.ofNat (rg_421 - lf_420)))] [(.int (1 : Int32))]))
    refine OEnd.of (fun tq kq => XS.goto X443.here hx rfl (pc0 := 414) (pc' := 418) rfl (hb hby at_414) (by decide) (by decide) kq) ?_
    show OEnd p e below _ (T443.setTop (mkF m 418 #[.val (.int p0), .val (.int p1), .val (.int p2), .val (.int p3), .val (.int p4), .val (.ref b338), .val (.ref r_418), .val (.int (Int32.ofNat pp_419)), .val (.int (Int32.ofNat sq)), .val (.int (Int32.ofNat el)), .val (.int (Int32.ofNat (rg_421 - lf_420)))] [(.int (1 : Int32))]))
    have K445 : Keep h0 h413 [] := (K417.trans Kq413 all0)
    exact OEnd.retNW X443 hx hlk e443 hh hS429 hk429 hEL hZ429 HR429 (t := .boolean) hret (by simp) (hb hby at_418) ⟨rfl, N444, K445⟩ (by decide) (by decide)
  have J446 : ∀ (vm446 : Vm) (T446 : State) (Lo446 : List Loc) (sq : Nat) (el : Nat), Stand p l e room_1 (s.setVm vm446) m #[(.int p0), (.int p1), (.int p2), (.int p3), (.int p4)] below meth c T446 Lo446 15 86 → T446.heap = h413 → Fr Z.heap.size Lo446 → (∃ k0, s.Since vm446 k0 ∧ k0 ≤ h413.size) → Z.Warmed39 (s.setVm vm446).vm → (s.setVm vm446).vm.findClass "com/example/postil/postil/server/HeaderFieldsMediaTypePinLaw" = some m.cls → CHr Z EL s.vm h0 vm446 h413 → (own_Fst (fun j => (32 : Int32) < [ch_344, ch_355, ch_366, ch_377, ch_388].getD j 0) 0 pp_419 sq) → (own_Lst (fun j => (32 : Int32) < [ch_344, ch_355, ch_366, ch_377, ch_388].getD j 0) 5 pp_419 el) → OEnd p e below (GW s Z EL (Qrm0 Z zc fm rt bl lg lv lk ci p0 p1 p2 p3 p4 h0) 40 4288) (T446.setTop (mkF m 308 #[.val (.int p0), .val (.int p1), .val (.int p2), .val (.int p3), .val (.int p4), .val (.ref b338), .val (.ref r_418), .val (.int (Int32.ofNat pp_419)), .val (.int (Int32.ofNat sq)), .val (.int (Int32.ofNat el)), .unset] [])) := by
    rintro vm446 T446 Lo446 sq el X446 e446 N446 ⟨kk446, hS446, hk446⟩ hZ446 hown446 HR446 hS hE
    show OEnd p e below _ (T446.setTop (mkF m 308 #[.val (.int p0), .val (.int p1), .val (.int p2), .val (.int p3), .val (.int p4), .val (.ref b338), .val (.ref r_418), .val (.int (Int32.ofNat pp_419)), .val (.int (Int32.ofNat sq)), .val (.int (Int32.ofNat el)), .unset] []))
    obtain ⟨m1, m2⟩ := own_mid rfl hpp hTr_423 hS hE
    have hs4 : sq ≤ 4000 := by have := hS.1; omega
    have he4 : el ≤ 4000 := by have := hE.1; omega
    refine OEnd.of (fun tq kq => XS.iload X446.here hx rfl (hb hby at_308) rfl kq) ?_
    show OEnd p e below _ (T446.setTop (mkF m 310 #[.val (.int p0), .val (.int p1), .val (.int p2), .val (.int p3), .val (.int p4), .val (.ref b338), .val (.ref r_418), .val (.int (Int32.ofNat pp_419)), .val (.int (Int32.ofNat sq)), .val (.int (Int32.ofNat el)), .unset] [(.int (Int32.ofNat sq))]))
    refine OEnd.of (fun tq kq => XS.iload X446.here hx rfl (hb hby at_310) rfl kq) ?_
    show OEnd p e below _ (T446.setTop (mkF m 312 #[.val (.int p0), .val (.int p1), .val (.int p2), .val (.int p3), .val (.int p4), .val (.ref b338), .val (.ref r_418), .val (.int (Int32.ofNat pp_419)), .val (.int (Int32.ofNat sq)), .val (.int (Int32.ofNat el)), .unset] [(.int (Int32.ofNat el)), (.int (Int32.ofNat sq))]))
    by_cases hc447 : (Int32.ofNat sq) < (Int32.ofNat el)
    · refine OEnd.of (fun tq kq => XS.icmpNo X446.here hx rfl (hb hby at_312) rfl (tlt hc447).2.1 kq) ?_
      show OEnd p e below _ (T446.setTop (mkF m 315 #[.val (.int p0), .val (.int p1), .val (.int p2), .val (.int p3), .val (.int p4), .val (.ref b338), .val (.ref r_418), .val (.int (Int32.ofNat pp_419)), .val (.int (Int32.ofNat sq)), .val (.int (Int32.ofNat el)), .unset] []))
      have hse : sq < el := (own_ltN hs4 he4).mp hc447
      refine OEnd.of (fun tq kq => XS.iload X446.here hx rfl (hb hby at_315) rfl kq) ?_
      show OEnd p e below _ (T446.setTop (mkF m 317 #[.val (.int p0), .val (.int p1), .val (.int p2), .val (.int p3), .val (.int p4), .val (.ref b338), .val (.ref r_418), .val (.int (Int32.ofNat pp_419)), .val (.int (Int32.ofNat sq)), .val (.int (Int32.ofNat el)), .unset] [(.int (Int32.ofNat el))]))
      refine OEnd.of (fun tq kq => XS.iload X446.here hx rfl (hb hby at_317) rfl kq) ?_
      show OEnd p e below _ (T446.setTop (mkF m 319 #[.val (.int p0), .val (.int p1), .val (.int p2), .val (.int p3), .val (.int p4), .val (.ref b338), .val (.ref r_418), .val (.int (Int32.ofNat pp_419)), .val (.int (Int32.ofNat sq)), .val (.int (Int32.ofNat el)), .unset] [(.int (Int32.ofNat sq)), (.int (Int32.ofNat el))]))
      refine OEnd.of (fun tq kq => XS.isub X446.here hx rfl (hb hby at_319) rfl kq) ?_
      show OEnd p e below _ (T446.setTop (mkF m 320 #[.val (.int p0), .val (.int p1), .val (.int p2), .val (.int p3), .val (.int p4), .val (.ref b338), .val (.ref r_418), .val (.int (Int32.ofNat pp_419)), .val (.int (Int32.ofNat sq)), .val (.int (Int32.ofNat el)), .unset] [(.int ((Int32.ofNat el) - (Int32.ofNat sq)))]))
      rw [show ((Int32.ofNat el) - (Int32.ofNat sq)) = (Int32.ofNat (rg_421 - lf_420)) from (own_sub (Nat.le_of_lt hse)).trans (by rw [(m1 hse).1, (m1 hse).2])]
      show OEnd p e below _ (T446.setTop (mkF m 320 #[.val (.int p0), .val (.int p1), .val (.int p2), .val (.int p3), .val (.int p4), .val (.ref b338), .val (.ref r_418), .val (.int (Int32.ofNat pp_419)), .val (.int (Int32.ofNat sq)), .val (.int (Int32.ofNat el)), .unset] [(.int (Int32.ofNat (rg_421 - lf_420)))]))
      refine OEnd.of (fun tq kq => XS.goto X446.here hx rfl (pc0 := 320) (pc' := 324) rfl (hb hby at_320) (by decide) (by decide) kq) ?_
      show OEnd p e below _ (T446.setTop (mkF m 324 #[.val (.int p0), .val (.int p1), .val (.int p2), .val (.int p3), .val (.int p4), .val (.ref b338), .val (.ref r_418), .val (.int (Int32.ofNat pp_419)), .val (.int (Int32.ofNat sq)), .val (.int (Int32.ofNat el)), .unset] [(.int (Int32.ofNat (rg_421 - lf_420)))]))
      refine OEnd.of (fun tq kq => XS.istore X446.here hx rfl (hb hby at_324) rfl (l' := #[.val (.int p0), .val (.int p1), .val (.int p2), .val (.int p3), .val (.int p4), .val (.ref b338), .val (.ref r_418), .val (.int (Int32.ofNat pp_419)), .val (.int (Int32.ofNat sq)), .val (.int (Int32.ofNat el)), .val (.int (Int32.ofNat (rg_421 - lf_420)))]) rfl kq) ?_
      show OEnd p e below _ (T446.setTop (mkF m 326 #[.val (.int p0), .val (.int p1), .val (.int p2), .val (.int p3), .val (.int p4), .val (.ref b338), .val (.ref r_418), .val (.int (Int32.ofNat pp_419)), .val (.int (Int32.ofNat sq)), .val (.int (Int32.ofNat el)), .val (.int (Int32.ofNat (rg_421 - lf_420)))] []))
      exact J429 _ T446 _ sq el X446 e446 N446 ⟨_, hS446, hk446⟩ hZ446 hown446 HR446 (fun _ => (m1 hse).1)
    · refine OEnd.of (fun tq kq => XS.icmpYes X446.here hx rfl (pc0 := 312) (pc' := 323) rfl (hb hby at_312) rfl (flt hc447).2.1 (by decide) (by decide) kq) ?_
      show OEnd p e below _ (T446.setTop (mkF m 323 #[.val (.int p0), .val (.int p1), .val (.int p2), .val (.int p3), .val (.int p4), .val (.ref b338), .val (.ref r_418), .val (.int (Int32.ofNat pp_419)), .val (.int (Int32.ofNat sq)), .val (.int (Int32.ofNat el)), .unset] []))
      have hse : ¬ sq < el := fun q => hc447 ((own_ltN hs4 he4).mpr q)
      refine OEnd.of (fun tq kq => XS.iconst X446.here hx rfl (hb hby at_323) kq) ?_
      show OEnd p e below _ (T446.setTop (mkF m 324 #[.val (.int p0), .val (.int p1), .val (.int p2), .val (.int p3), .val (.int p4), .val (.ref b338), .val (.ref r_418), .val (.int (Int32.ofNat pp_419)), .val (.int (Int32.ofNat sq)), .val (.int (Int32.ofNat el)), .unset] [(.int (0 : Int32))]))
      rw [show (0 : Int32) = (Int32.ofNat (rg_421 - lf_420)) from (congrArg Int32.ofNat (m2 hse)).symm]
      show OEnd p e below _ (T446.setTop (mkF m 324 #[.val (.int p0), .val (.int p1), .val (.int p2), .val (.int p3), .val (.int p4), .val (.ref b338), .val (.ref r_418), .val (.int (Int32.ofNat pp_419)), .val (.int (Int32.ofNat sq)), .val (.int (Int32.ofNat el)), .unset] [(.int (Int32.ofNat (rg_421 - lf_420)))]))
      refine OEnd.of (fun tq kq => XS.istore X446.here hx rfl (hb hby at_324) rfl (l' := #[.val (.int p0), .val (.int p1), .val (.int p2), .val (.int p3), .val (.int p4), .val (.ref b338), .val (.ref r_418), .val (.int (Int32.ofNat pp_419)), .val (.int (Int32.ofNat sq)), .val (.int (Int32.ofNat el)), .val (.int (Int32.ofNat (rg_421 - lf_420)))]) rfl kq) ?_
      show OEnd p e below _ (T446.setTop (mkF m 326 #[.val (.int p0), .val (.int p1), .val (.int p2), .val (.int p3), .val (.int p4), .val (.ref b338), .val (.ref r_418), .val (.int (Int32.ofNat pp_419)), .val (.int (Int32.ofNat sq)), .val (.int (Int32.ofNat el)), .val (.int (Int32.ofNat (rg_421 - lf_420)))] []))
      exact J429 _ T446 _ sq el X446 e446 N446 ⟨_, hS446, hk446⟩ hZ446 hown446 HR446 (fun q => absurd (m2 hse) (by omega))
  have J448 : ∀ (vm448 : Vm) (T448 : State) (Lo448 : List Loc) (sq : Nat) (el : Nat), Stand p l e room_1 (s.setVm vm448) m #[(.int p0), (.int p1), (.int p2), (.int p3), (.int p4)] below meth c T448 Lo448 15 86 → T448.heap = h413 → Fr Z.heap.size Lo448 → (∃ k0, s.Since vm448 k0 ∧ k0 ≤ h413.size) → Z.Warmed39 (s.setVm vm448).vm → (s.setVm vm448).vm.findClass "com/example/postil/postil/server/HeaderFieldsMediaTypePinLaw" = some m.cls → CHr Z EL s.vm h0 vm448 h413 → (own_Fst (fun j => (32 : Int32) < [ch_344, ch_355, ch_366, ch_377, ch_388].getD j 0) 0 pp_419 sq) → (own_Lst (fun j => (32 : Int32) < [ch_344, ch_355, ch_366, ch_377, ch_388].getD j 0) 4 pp_419 el) → OEnd p e below (GW s Z EL (Qrm0 Z zc fm rt bl lg lv lk ci p0 p1 p2 p3 p4 h0) 40 4288) (T448.setTop (mkF m 290 #[.val (.int p0), .val (.int p1), .val (.int p2), .val (.int p3), .val (.int p4), .val (.ref b338), .val (.ref r_418), .val (.int (Int32.ofNat pp_419)), .val (.int (Int32.ofNat sq)), .val (.int (Int32.ofNat el)), .unset] [])) := by
    rintro vm448 T448 Lo448 sq el X448 e448 N448 ⟨kk448, hS448, hk448⟩ hZ448 hown448 HR448 hS hE
    show OEnd p e below _ (T448.setTop (mkF m 290 #[.val (.int p0), .val (.int p1), .val (.int p2), .val (.int p3), .val (.int p4), .val (.ref b338), .val (.ref r_418), .val (.int (Int32.ofNat pp_419)), .val (.int (Int32.ofNat sq)), .val (.int (Int32.ofNat el)), .unset] []))
    refine OEnd.of (fun tq kq => XS.iload X448.here hx rfl (hb hby at_290) rfl kq) ?_
    show OEnd p e below _ (T448.setTop (mkF m 292 #[.val (.int p0), .val (.int p1), .val (.int p2), .val (.int p3), .val (.int p4), .val (.ref b338), .val (.ref r_418), .val (.int (Int32.ofNat pp_419)), .val (.int (Int32.ofNat sq)), .val (.int (Int32.ofNat el)), .unset] [(.int (Int32.ofNat pp_419))]))
    refine OEnd.of (fun tq kq => XS.iconst X448.here hx rfl (hb hby at_292) kq) ?_
    show OEnd p e below _ (T448.setTop (mkF m 293 #[.val (.int p0), .val (.int p1), .val (.int p2), .val (.int p3), .val (.int p4), .val (.ref b338), .val (.ref r_418), .val (.int (Int32.ofNat pp_419)), .val (.int (Int32.ofNat sq)), .val (.int (Int32.ofNat el)), .unset] [(.int (4 : Int32)), (.int (Int32.ofNat pp_419))]))
    by_cases hc449 : (4 : Int32) < (Int32.ofNat pp_419)
    · refine OEnd.of (fun tq kq => XS.icmpNo X448.here hx rfl (hb hby at_293) rfl (tlt hc449).2.2.2 kq) ?_
      show OEnd p e below _ (T448.setTop (mkF m 296 #[.val (.int p0), .val (.int p1), .val (.int p2), .val (.int p3), .val (.int p4), .val (.ref b338), .val (.ref r_418), .val (.int (Int32.ofNat pp_419)), .val (.int (Int32.ofNat sq)), .val (.int (Int32.ofNat el)), .unset] []))
      refine OEnd.of (fun tq kq => XS.aload X448.here hx rfl (hb hby at_296) rfl rfl kq) ?_
      show OEnd p e below _ (T448.setTop (mkF m 298 #[.val (.int p0), .val (.int p1), .val (.int p2), .val (.int p3), .val (.int p4), .val (.ref b338), .val (.ref r_418), .val (.int (Int32.ofNat pp_419)), .val (.int (Int32.ofNat sq)), .val (.int (Int32.ofNat el)), .unset] [(.ref b338)]))
      refine OEnd.of (fun tq kq => XS.iconst X448.here hx rfl (hb hby at_298) kq) ?_
      show OEnd p e below _ (T448.setTop (mkF m 299 #[.val (.int p0), .val (.int p1), .val (.int p2), .val (.int p3), .val (.int p4), .val (.ref b338), .val (.ref r_418), .val (.int (Int32.ofNat pp_419)), .val (.int (Int32.ofNat sq)), .val (.int (Int32.ofNat el)), .unset] [(.int (4 : Int32)), (.ref b338)]))
      have K450 : Keep h391 h413 [] := ((K403.trans Kq405 (allS (Or.inr (Nat.le_of_eq g396.symm)) all0)).trans Kq413 all0)
      have Vc451 := (V392.keep K450 nin0)
      obtain ⟨cl451, Ar451, q451, S451, N451, H451, G451⟩ := Vc451
      have hin451 : ¬ ((4 : Int32) < 0 ∨ cl451.slots.size ≤ ((4 : Int32)).toNatClampNeg) := inb_of S451 ⟨by decide, by decide⟩
      refine OEnd.of (X448.caload hx (j := (4 : Int32)) (v := (.int ch_388)) (by rw [e448]; exact Ar451.1) (State.isArrayOf_alike hZ448.alike Ar451.2.1) Ar451.2.2 hin451 (H451.at hin451 rfl) (g := (mkF m 299 #[.val (.int p0), .val (.int p1), .val (.int p2), .val (.int p3), .val (.int p4), .val (.ref b338), .val (.ref r_418), .val (.int (Int32.ofNat pp_419)), .val (.int (Int32.ofNat sq)), .val (.int (Int32.ofNat el)), .unset] [(.int (4 : Int32)), (.ref b338)])) rfl rfl (hb hby at_299)) ?_
      show OEnd p e below _ (T448.setTop (mkF m 300 #[.val (.int p0), .val (.int p1), .val (.int p2), .val (.int p3), .val (.int p4), .val (.ref b338), .val (.ref r_418), .val (.int (Int32.ofNat pp_419)), .val (.int (Int32.ofNat sq)), .val (.int (Int32.ofNat el)), .unset] [(.int ch_388)]))
      refine OEnd.of (fun tq kq => XS.bipush X448.here hx rfl (hb hby at_300) kq) ?_
      show OEnd p e below _ (T448.setTop (mkF m 302 #[.val (.int p0), .val (.int p1), .val (.int p2), .val (.int p3), .val (.int p4), .val (.ref b338), .val (.ref r_418), .val (.int (Int32.ofNat pp_419)), .val (.int (Int32.ofNat sq)), .val (.int (Int32.ofNat el)), .unset] [(.int (32 : Int32)), (.int ch_388)]))
      by_cases hc452 : (32 : Int32) < ch_388
      · refine OEnd.of (fun tq kq => XS.icmpNo X448.here hx rfl (hb hby at_302) rfl (tlt hc452).2.2.2 kq) ?_
        show OEnd p e below _ (T448.setTop (mkF m 305 #[.val (.int p0), .val (.int p1), .val (.int p2), .val (.int p3), .val (.int p4), .val (.ref b338), .val (.ref r_418), .val (.int (Int32.ofNat pp_419)), .val (.int (Int32.ofNat sq)), .val (.int (Int32.ofNat el)), .unset] []))
        refine OEnd.of (fun tq kq => XS.iconst X448.here hx rfl (hb hby at_305) kq) ?_
        show OEnd p e below _ (T448.setTop (mkF m 306 #[.val (.int p0), .val (.int p1), .val (.int p2), .val (.int p3), .val (.int p4), .val (.ref b338), .val (.ref r_418), .val (.int (Int32.ofNat pp_419)), .val (.int (Int32.ofNat sq)), .val (.int (Int32.ofNat el)), .unset] [(.int (5 : Int32))]))
        refine OEnd.of (fun tq kq => XS.istore X448.here hx rfl (hb hby at_306) rfl (l' := #[.val (.int p0), .val (.int p1), .val (.int p2), .val (.int p3), .val (.int p4), .val (.ref b338), .val (.ref r_418), .val (.int (Int32.ofNat pp_419)), .val (.int (Int32.ofNat sq)), .val (.int (5 : Int32)), .unset]) rfl kq) ?_
        show OEnd p e below _ (T448.setTop (mkF m 308 #[.val (.int p0), .val (.int p1), .val (.int p2), .val (.int p3), .val (.int p4), .val (.ref b338), .val (.ref r_418), .val (.int (Int32.ofNat pp_419)), .val (.int (Int32.ofNat sq)), .val (.int (5 : Int32)), .unset] []))
        exact J446 _ T448 _ sq 5 X448 e448 N448 ⟨_, hS448, hk448⟩ hZ448 hown448 HR448 hS (own_Lst.yes (D := (fun j => (32 : Int32) < [ch_344, ch_355, ch_366, ch_377, ch_388].getD j 0)) (i := 4) ((own_ltN (a := 4) (by decide) (Nat.le_trans hpp (by decide))).mp hc449) hc452)
      · refine OEnd.of (fun tq kq => XS.icmpYes X448.here hx rfl (pc0 := 302) (pc' := 308) rfl (hb hby at_302) rfl (flt hc452).2.2.2 (by decide) (by decide) kq) ?_
        show OEnd p e below _ (T448.setTop (mkF m 308 #[.val (.int p0), .val (.int p1), .val (.int p2), .val (.int p3), .val (.int p4), .val (.ref b338), .val (.ref r_418), .val (.int (Int32.ofNat pp_419)), .val (.int (Int32.ofNat sq)), .val (.int (Int32.ofNat el)), .unset] []))
        exact J446 _ T448 _ sq el X448 e448 N448 ⟨_, hS448, hk448⟩ hZ448 hown448 HR448 hS (own_Lst.no hE (fun q => hc452 q.2))
    · refine OEnd.of (fun tq kq => XS.icmpYes X448.here hx rfl (pc0 := 293) (pc' := 308) rfl (hb hby at_293) rfl (flt hc449).2.2.2 (by decide) (by decide) kq) ?_
      show OEnd p e below _ (T448.setTop (mkF m 308 #[.val (.int p0), .val (.int p1), .val (.int p2), .val (.int p3), .val (.int p4), .val (.ref b338), .val (.ref r_418), .val (.int (Int32.ofNat pp_419)), .val (.int (Int32.ofNat sq)), .val (.int (Int32.ofNat el)), .unset] []))
      exact J446 _ T448 _ sq el X448 e448 N448 ⟨_, hS448, hk448⟩ hZ448 hown448 HR448 hS (own_Lst.no hE (fun q => hc449 ((own_ltN (a := 4) (by decide) (Nat.le_trans hpp (by decide))).mpr q.1)))
  have J453 : ∀ (vm453 : Vm) (T453 : State) (Lo453 : List Loc) (sq : Nat) (el : Nat), Stand p l e room_1 (s.setVm vm453) m #[(.int p0), (.int p1), (.int p2), (.int p3), (.int p4)] below meth c T453 Lo453 15 86 → T453.heap = h413 → Fr Z.heap.size Lo453 → (∃ k0, s.Since vm453 k0 ∧ k0 ≤ h413.size) → Z.Warmed39 (s.setVm vm453).vm → (s.setVm vm453).vm.findClass "com/example/postil/postil/server/HeaderFieldsMediaTypePinLaw" = some m.cls → CHr Z EL s.vm h0 vm453 h413 → (own_Fst (fun j => (32 : Int32) < [ch_344, ch_355, ch_366, ch_377, ch_388].getD j 0) 0 pp_419 sq) → (own_Lst (fun j => (32 : Int32) < [ch_344, ch_355, ch_366, ch_377, ch_388].getD j 0) 3 pp_419 el) → OEnd p e below (GW s Z EL (Qrm0 Z zc fm rt bl lg lv lk ci p0 p1 p2 p3 p4 h0) 40 4288) (T453.setTop (mkF m 272 #[.val (.int p0), .val (.int p1), .val (.int p2), .val (.int p3), .val (.int p4), .val (.ref b338), .val (.ref r_418), .val (.int (Int32.ofNat pp_419)), .val (.int (Int32.ofNat sq)), .val (.int (Int32.ofNat el)), .unset] [])) := by
    rintro vm453 T453 Lo453 sq el X453 e453 N453 ⟨kk453, hS453, hk453⟩ hZ453 hown453 HR453 hS hE
    show OEnd p e below _ (T453.setTop (mkF m 272 #[.val (.int p0), .val (.int p1), .val (.int p2), .val (.int p3), .val (.int p4), .val (.ref b338), .val (.ref r_418), .val (.int (Int32.ofNat pp_419)), .val (.int (Int32.ofNat sq)), .val (.int (Int32.ofNat el)), .unset] []))
    refine OEnd.of (fun tq kq => XS.iload X453.here hx rfl (hb hby at_272) rfl kq) ?_
    show OEnd p e below _ (T453.setTop (mkF m 274 #[.val (.int p0), .val (.int p1), .val (.int p2), .val (.int p3), .val (.int p4), .val (.ref b338), .val (.ref r_418), .val (.int (Int32.ofNat pp_419)), .val (.int (Int32.ofNat sq)), .val (.int (Int32.ofNat el)), .unset] [(.int (Int32.ofNat pp_419))]))
    refine OEnd.of (fun tq kq => XS.iconst X453.here hx rfl (hb hby at_274) kq) ?_
    show OEnd p e below _ (T453.setTop (mkF m 275 #[.val (.int p0), .val (.int p1), .val (.int p2), .val (.int p3), .val (.int p4), .val (.ref b338), .val (.ref r_418), .val (.int (Int32.ofNat pp_419)), .val (.int (Int32.ofNat sq)), .val (.int (Int32.ofNat el)), .unset] [(.int (3 : Int32)), (.int (Int32.ofNat pp_419))]))
    by_cases hc454 : (3 : Int32) < (Int32.ofNat pp_419)
    · refine OEnd.of (fun tq kq => XS.icmpNo X453.here hx rfl (hb hby at_275) rfl (tlt hc454).2.2.2 kq) ?_
      show OEnd p e below _ (T453.setTop (mkF m 278 #[.val (.int p0), .val (.int p1), .val (.int p2), .val (.int p3), .val (.int p4), .val (.ref b338), .val (.ref r_418), .val (.int (Int32.ofNat pp_419)), .val (.int (Int32.ofNat sq)), .val (.int (Int32.ofNat el)), .unset] []))
      refine OEnd.of (fun tq kq => XS.aload X453.here hx rfl (hb hby at_278) rfl rfl kq) ?_
      show OEnd p e below _ (T453.setTop (mkF m 280 #[.val (.int p0), .val (.int p1), .val (.int p2), .val (.int p3), .val (.int p4), .val (.ref b338), .val (.ref r_418), .val (.int (Int32.ofNat pp_419)), .val (.int (Int32.ofNat sq)), .val (.int (Int32.ofNat el)), .unset] [(.ref b338)]))
      refine OEnd.of (fun tq kq => XS.iconst X453.here hx rfl (hb hby at_280) kq) ?_
      show OEnd p e below _ (T453.setTop (mkF m 281 #[.val (.int p0), .val (.int p1), .val (.int p2), .val (.int p3), .val (.int p4), .val (.ref b338), .val (.ref r_418), .val (.int (Int32.ofNat pp_419)), .val (.int (Int32.ofNat sq)), .val (.int (Int32.ofNat el)), .unset] [(.int (3 : Int32)), (.ref b338)]))
      have K455 : Keep h391 h413 [] := ((K403.trans Kq405 (allS (Or.inr (Nat.le_of_eq g396.symm)) all0)).trans Kq413 all0)
      have Vc456 := (V392.keep K455 nin0)
      obtain ⟨cl456, Ar456, q456, S456, N456, H456, G456⟩ := Vc456
      have hin456 : ¬ ((3 : Int32) < 0 ∨ cl456.slots.size ≤ ((3 : Int32)).toNatClampNeg) := inb_of S456 ⟨by decide, by decide⟩
      refine OEnd.of (X453.caload hx (j := (3 : Int32)) (v := (.int ch_377)) (by rw [e453]; exact Ar456.1) (State.isArrayOf_alike hZ453.alike Ar456.2.1) Ar456.2.2 hin456 (H456.at hin456 rfl) (g := (mkF m 281 #[.val (.int p0), .val (.int p1), .val (.int p2), .val (.int p3), .val (.int p4), .val (.ref b338), .val (.ref r_418), .val (.int (Int32.ofNat pp_419)), .val (.int (Int32.ofNat sq)), .val (.int (Int32.ofNat el)), .unset] [(.int (3 : Int32)), (.ref b338)])) rfl rfl (hb hby at_281)) ?_
      show OEnd p e below _ (T453.setTop (mkF m 282 #[.val (.int p0), .val (.int p1), .val (.int p2), .val (.int p3), .val (.int p4), .val (.ref b338), .val (.ref r_418), .val (.int (Int32.ofNat pp_419)), .val (.int (Int32.ofNat sq)), .val (.int (Int32.ofNat el)), .unset] [(.int ch_377)]))
      refine OEnd.of (fun tq kq => XS.bipush X453.here hx rfl (hb hby at_282) kq) ?_
      show OEnd p e below _ (T453.setTop (mkF m 284 #[.val (.int p0), .val (.int p1), .val (.int p2), .val (.int p3), .val (.int p4), .val (.ref b338), .val (.ref r_418), .val (.int (Int32.ofNat pp_419)), .val (.int (Int32.ofNat sq)), .val (.int (Int32.ofNat el)), .unset] [(.int (32 : Int32)), (.int ch_377)]))
      by_cases hc457 : (32 : Int32) < ch_377
      · refine OEnd.of (fun tq kq => XS.icmpNo X453.here hx rfl (hb hby at_284) rfl (tlt hc457).2.2.2 kq) ?_
        show OEnd p e below _ (T453.setTop (mkF m 287 #[.val (.int p0), .val (.int p1), .val (.int p2), .val (.int p3), .val (.int p4), .val (.ref b338), .val (.ref r_418), .val (.int (Int32.ofNat pp_419)), .val (.int (Int32.ofNat sq)), .val (.int (Int32.ofNat el)), .unset] []))
        refine OEnd.of (fun tq kq => XS.iconst X453.here hx rfl (hb hby at_287) kq) ?_
        show OEnd p e below _ (T453.setTop (mkF m 288 #[.val (.int p0), .val (.int p1), .val (.int p2), .val (.int p3), .val (.int p4), .val (.ref b338), .val (.ref r_418), .val (.int (Int32.ofNat pp_419)), .val (.int (Int32.ofNat sq)), .val (.int (Int32.ofNat el)), .unset] [(.int (4 : Int32))]))
        refine OEnd.of (fun tq kq => XS.istore X453.here hx rfl (hb hby at_288) rfl (l' := #[.val (.int p0), .val (.int p1), .val (.int p2), .val (.int p3), .val (.int p4), .val (.ref b338), .val (.ref r_418), .val (.int (Int32.ofNat pp_419)), .val (.int (Int32.ofNat sq)), .val (.int (4 : Int32)), .unset]) rfl kq) ?_
        show OEnd p e below _ (T453.setTop (mkF m 290 #[.val (.int p0), .val (.int p1), .val (.int p2), .val (.int p3), .val (.int p4), .val (.ref b338), .val (.ref r_418), .val (.int (Int32.ofNat pp_419)), .val (.int (Int32.ofNat sq)), .val (.int (4 : Int32)), .unset] []))
        exact J448 _ T453 _ sq 4 X453 e453 N453 ⟨_, hS453, hk453⟩ hZ453 hown453 HR453 hS (own_Lst.yes (D := (fun j => (32 : Int32) < [ch_344, ch_355, ch_366, ch_377, ch_388].getD j 0)) (i := 3) ((own_ltN (a := 3) (by decide) (Nat.le_trans hpp (by decide))).mp hc454) hc457)
      · refine OEnd.of (fun tq kq => XS.icmpYes X453.here hx rfl (pc0 := 284) (pc' := 290) rfl (hb hby at_284) rfl (flt hc457).2.2.2 (by decide) (by decide) kq) ?_
        show OEnd p e below _ (T453.setTop (mkF m 290 #[.val (.int p0), .val (.int p1), .val (.int p2), .val (.int p3), .val (.int p4), .val (.ref b338), .val (.ref r_418), .val (.int (Int32.ofNat pp_419)), .val (.int (Int32.ofNat sq)), .val (.int (Int32.ofNat el)), .unset] []))
        exact J448 _ T453 _ sq el X453 e453 N453 ⟨_, hS453, hk453⟩ hZ453 hown453 HR453 hS (own_Lst.no hE (fun q => hc457 q.2))
    · refine OEnd.of (fun tq kq => XS.icmpYes X453.here hx rfl (pc0 := 275) (pc' := 290) rfl (hb hby at_275) rfl (flt hc454).2.2.2 (by decide) (by decide) kq) ?_
      show OEnd p e below _ (T453.setTop (mkF m 290 #[.val (.int p0), .val (.int p1), .val (.int p2), .val (.int p3), .val (.int p4), .val (.ref b338), .val (.ref r_418), .val (.int (Int32.ofNat pp_419)), .val (.int (Int32.ofNat sq)), .val (.int (Int32.ofNat el)), .unset] []))
      exact J448 _ T453 _ sq el X453 e453 N453 ⟨_, hS453, hk453⟩ hZ453 hown453 HR453 hS (own_Lst.no hE (fun q => hc454 ((own_ltN (a := 3) (by decide) (Nat.le_trans hpp (by decide))).mpr q.1)))
  have J458 : ∀ (vm458 : Vm) (T458 : State) (Lo458 : List Loc) (sq : Nat) (el : Nat), Stand p l e room_1 (s.setVm vm458) m #[(.int p0), (.int p1), (.int p2), (.int p3), (.int p4)] below meth c T458 Lo458 15 86 → T458.heap = h413 → Fr Z.heap.size Lo458 → (∃ k0, s.Since vm458 k0 ∧ k0 ≤ h413.size) → Z.Warmed39 (s.setVm vm458).vm → (s.setVm vm458).vm.findClass "com/example/postil/postil/server/HeaderFieldsMediaTypePinLaw" = some m.cls → CHr Z EL s.vm h0 vm458 h413 → (own_Fst (fun j => (32 : Int32) < [ch_344, ch_355, ch_366, ch_377, ch_388].getD j 0) 0 pp_419 sq) → (own_Lst (fun j => (32 : Int32) < [ch_344, ch_355, ch_366, ch_377, ch_388].getD j 0) 2 pp_419 el) → OEnd p e below (GW s Z EL (Qrm0 Z zc fm rt bl lg lv lk ci p0 p1 p2 p3 p4 h0) 40 4288) (T458.setTop (mkF m 254 #[.val (.int p0), .val (.int p1), .val (.int p2), .val (.int p3), .val (.int p4), .val (.ref b338), .val (.ref r_418), .val (.int (Int32.ofNat pp_419)), .val (.int (Int32.ofNat sq)), .val (.int (Int32.ofNat el)), .unset] [])) := by
    rintro vm458 T458 Lo458 sq el X458 e458 N458 ⟨kk458, hS458, hk458⟩ hZ458 hown458 HR458 hS hE
    show OEnd p e below _ (T458.setTop (mkF m 254 #[.val (.int p0), .val (.int p1), .val (.int p2), .val (.int p3), .val (.int p4), .val (.ref b338), .val (.ref r_418), .val (.int (Int32.ofNat pp_419)), .val (.int (Int32.ofNat sq)), .val (.int (Int32.ofNat el)), .unset] []))
    refine OEnd.of (fun tq kq => XS.iload X458.here hx rfl (hb hby at_254) rfl kq) ?_
    show OEnd p e below _ (T458.setTop (mkF m 256 #[.val (.int p0), .val (.int p1), .val (.int p2), .val (.int p3), .val (.int p4), .val (.ref b338), .val (.ref r_418), .val (.int (Int32.ofNat pp_419)), .val (.int (Int32.ofNat sq)), .val (.int (Int32.ofNat el)), .unset] [(.int (Int32.ofNat pp_419))]))
    refine OEnd.of (fun tq kq => XS.iconst X458.here hx rfl (hb hby at_256) kq) ?_
    show OEnd p e below _ (T458.setTop (mkF m 257 #[.val (.int p0), .val (.int p1), .val (.int p2), .val (.int p3), .val (.int p4), .val (.ref b338), .val (.ref r_418), .val (.int (Int32.ofNat pp_419)), .val (.int (Int32.ofNat sq)), .val (.int (Int32.ofNat el)), .unset] [(.int (2 : Int32)), (.int (Int32.ofNat pp_419))]))
    by_cases hc459 : (2 : Int32) < (Int32.ofNat pp_419)
    · refine OEnd.of (fun tq kq => XS.icmpNo X458.here hx rfl (hb hby at_257) rfl (tlt hc459).2.2.2 kq) ?_
      show OEnd p e below _ (T458.setTop (mkF m 260 #[.val (.int p0), .val (.int p1), .val (.int p2), .val (.int p3), .val (.int p4), .val (.ref b338), .val (.ref r_418), .val (.int (Int32.ofNat pp_419)), .val (.int (Int32.ofNat sq)), .val (.int (Int32.ofNat el)), .unset] []))
      refine OEnd.of (fun tq kq => XS.aload X458.here hx rfl (hb hby at_260) rfl rfl kq) ?_
      show OEnd p e below _ (T458.setTop (mkF m 262 #[.val (.int p0), .val (.int p1), .val (.int p2), .val (.int p3), .val (.int p4), .val (.ref b338), .val (.ref r_418), .val (.int (Int32.ofNat pp_419)), .val (.int (Int32.ofNat sq)), .val (.int (Int32.ofNat el)), .unset] [(.ref b338)]))
      refine OEnd.of (fun tq kq => XS.iconst X458.here hx rfl (hb hby at_262) kq) ?_
      show OEnd p e below _ (T458.setTop (mkF m 263 #[.val (.int p0), .val (.int p1), .val (.int p2), .val (.int p3), .val (.int p4), .val (.ref b338), .val (.ref r_418), .val (.int (Int32.ofNat pp_419)), .val (.int (Int32.ofNat sq)), .val (.int (Int32.ofNat el)), .unset] [(.int (2 : Int32)), (.ref b338)]))
      have K460 : Keep h391 h413 [] := ((K403.trans Kq405 (allS (Or.inr (Nat.le_of_eq g396.symm)) all0)).trans Kq413 all0)
      have Vc461 := (V392.keep K460 nin0)
      obtain ⟨cl461, Ar461, q461, S461, N461, H461, G461⟩ := Vc461
      have hin461 : ¬ ((2 : Int32) < 0 ∨ cl461.slots.size ≤ ((2 : Int32)).toNatClampNeg) := inb_of S461 ⟨by decide, by decide⟩
      refine OEnd.of (X458.caload hx (j := (2 : Int32)) (v := (.int ch_366)) (by rw [e458]; exact Ar461.1) (State.isArrayOf_alike hZ458.alike Ar461.2.1) Ar461.2.2 hin461 (H461.at hin461 rfl) (g := (mkF m 263 #[.val (.int p0), .val (.int p1), .val (.int p2), .val (.int p3), .val (.int p4), .val (.ref b338), .val (.ref r_418), .val (.int (Int32.ofNat pp_419)), .val (.int (Int32.ofNat sq)), .val (.int (Int32.ofNat el)), .unset] [(.int (2 : Int32)), (.ref b338)])) rfl rfl (hb hby at_263)) ?_
      show OEnd p e below _ (T458.setTop (mkF m 264 #[.val (.int p0), .val (.int p1), .val (.int p2), .val (.int p3), .val (.int p4), .val (.ref b338), .val (.ref r_418), .val (.int (Int32.ofNat pp_419)), .val (.int (Int32.ofNat sq)), .val (.int (Int32.ofNat el)), .unset] [(.int ch_366)]))
      refine OEnd.of (fun tq kq => XS.bipush X458.here hx rfl (hb hby at_264) kq) ?_
      show OEnd p e below _ (T458.setTop (mkF m 266 #[.val (.int p0), .val (.int p1), .val (.int p2), .val (.int p3), .val (.int p4), .val (.ref b338), .val (.ref r_418), .val (.int (Int32.ofNat pp_419)), .val (.int (Int32.ofNat sq)), .val (.int (Int32.ofNat el)), .unset] [(.int (32 : Int32)), (.int ch_366)]))
      by_cases hc462 : (32 : Int32) < ch_366
      · refine OEnd.of (fun tq kq => XS.icmpNo X458.here hx rfl (hb hby at_266) rfl (tlt hc462).2.2.2 kq) ?_
        show OEnd p e below _ (T458.setTop (mkF m 269 #[.val (.int p0), .val (.int p1), .val (.int p2), .val (.int p3), .val (.int p4), .val (.ref b338), .val (.ref r_418), .val (.int (Int32.ofNat pp_419)), .val (.int (Int32.ofNat sq)), .val (.int (Int32.ofNat el)), .unset] []))
        refine OEnd.of (fun tq kq => XS.iconst X458.here hx rfl (hb hby at_269) kq) ?_
        show OEnd p e below _ (T458.setTop (mkF m 270 #[.val (.int p0), .val (.int p1), .val (.int p2), .val (.int p3), .val (.int p4), .val (.ref b338), .val (.ref r_418), .val (.int (Int32.ofNat pp_419)), .val (.int (Int32.ofNat sq)), .val (.int (Int32.ofNat el)), .unset] [(.int (3 : Int32))]))
        refine OEnd.of (fun tq kq => XS.istore X458.here hx rfl (hb hby at_270) rfl (l' := #[.val (.int p0), .val (.int p1), .val (.int p2), .val (.int p3), .val (.int p4), .val (.ref b338), .val (.ref r_418), .val (.int (Int32.ofNat pp_419)), .val (.int (Int32.ofNat sq)), .val (.int (3 : Int32)), .unset]) rfl kq) ?_
        show OEnd p e below _ (T458.setTop (mkF m 272 #[.val (.int p0), .val (.int p1), .val (.int p2), .val (.int p3), .val (.int p4), .val (.ref b338), .val (.ref r_418), .val (.int (Int32.ofNat pp_419)), .val (.int (Int32.ofNat sq)), .val (.int (3 : Int32)), .unset] []))
        exact J453 _ T458 _ sq 3 X458 e458 N458 ⟨_, hS458, hk458⟩ hZ458 hown458 HR458 hS (own_Lst.yes (D := (fun j => (32 : Int32) < [ch_344, ch_355, ch_366, ch_377, ch_388].getD j 0)) (i := 2) ((own_ltN (a := 2) (by decide) (Nat.le_trans hpp (by decide))).mp hc459) hc462)
      · refine OEnd.of (fun tq kq => XS.icmpYes X458.here hx rfl (pc0 := 266) (pc' := 272) rfl (hb hby at_266) rfl (flt hc462).2.2.2 (by decide) (by decide) kq) ?_
        show OEnd p e below _ (T458.setTop (mkF m 272 #[.val (.int p0), .val (.int p1), .val (.int p2), .val (.int p3), .val (.int p4), .val (.ref b338), .val (.ref r_418), .val (.int (Int32.ofNat pp_419)), .val (.int (Int32.ofNat sq)), .val (.int (Int32.ofNat el)), .unset] []))
        exact J453 _ T458 _ sq el X458 e458 N458 ⟨_, hS458, hk458⟩ hZ458 hown458 HR458 hS (own_Lst.no hE (fun q => hc462 q.2))
    · refine OEnd.of (fun tq kq => XS.icmpYes X458.here hx rfl (pc0 := 257) (pc' := 272) rfl (hb hby at_257) rfl (flt hc459).2.2.2 (by decide) (by decide) kq) ?_
      show OEnd p e below _ (T458.setTop (mkF m 272 #[.val (.int p0), .val (.int p1), .val (.int p2), .val (.int p3), .val (.int p4), .val (.ref b338), .val (.ref r_418), .val (.int (Int32.ofNat pp_419)), .val (.int (Int32.ofNat sq)), .val (.int (Int32.ofNat el)), .unset] []))
      exact J453 _ T458 _ sq el X458 e458 N458 ⟨_, hS458, hk458⟩ hZ458 hown458 HR458 hS (own_Lst.no hE (fun q => hc459 ((own_ltN (a := 2) (by decide) (Nat.le_trans hpp (by decide))).mpr q.1)))
  have J463 : ∀ (vm463 : Vm) (T463 : State) (Lo463 : List Loc) (sq : Nat) (el : Nat), Stand p l e room_1 (s.setVm vm463) m #[(.int p0), (.int p1), (.int p2), (.int p3), (.int p4)] below meth c T463 Lo463 15 86 → T463.heap = h413 → Fr Z.heap.size Lo463 → (∃ k0, s.Since vm463 k0 ∧ k0 ≤ h413.size) → Z.Warmed39 (s.setVm vm463).vm → (s.setVm vm463).vm.findClass "com/example/postil/postil/server/HeaderFieldsMediaTypePinLaw" = some m.cls → CHr Z EL s.vm h0 vm463 h413 → (own_Fst (fun j => (32 : Int32) < [ch_344, ch_355, ch_366, ch_377, ch_388].getD j 0) 0 pp_419 sq) → (own_Lst (fun j => (32 : Int32) < [ch_344, ch_355, ch_366, ch_377, ch_388].getD j 0) 1 pp_419 el) → OEnd p e below (GW s Z EL (Qrm0 Z zc fm rt bl lg lv lk ci p0 p1 p2 p3 p4 h0) 40 4288) (T463.setTop (mkF m 236 #[.val (.int p0), .val (.int p1), .val (.int p2), .val (.int p3), .val (.int p4), .val (.ref b338), .val (.ref r_418), .val (.int (Int32.ofNat pp_419)), .val (.int (Int32.ofNat sq)), .val (.int (Int32.ofNat el)), .unset] [])) := by
    rintro vm463 T463 Lo463 sq el X463 e463 N463 ⟨kk463, hS463, hk463⟩ hZ463 hown463 HR463 hS hE
    show OEnd p e below _ (T463.setTop (mkF m 236 #[.val (.int p0), .val (.int p1), .val (.int p2), .val (.int p3), .val (.int p4), .val (.ref b338), .val (.ref r_418), .val (.int (Int32.ofNat pp_419)), .val (.int (Int32.ofNat sq)), .val (.int (Int32.ofNat el)), .unset] []))
    refine OEnd.of (fun tq kq => XS.iload X463.here hx rfl (hb hby at_236) rfl kq) ?_
    show OEnd p e below _ (T463.setTop (mkF m 238 #[.val (.int p0), .val (.int p1), .val (.int p2), .val (.int p3), .val (.int p4), .val (.ref b338), .val (.ref r_418), .val (.int (Int32.ofNat pp_419)), .val (.int (Int32.ofNat sq)), .val (.int (Int32.ofNat el)), .unset] [(.int (Int32.ofNat pp_419))]))
    refine OEnd.of (fun tq kq => XS.iconst X463.here hx rfl (hb hby at_238) kq) ?_
    show OEnd p e below _ (T463.setTop (mkF m 239 #[.val (.int p0), .val (.int p1), .val (.int p2), .val (.int p3), .val (.int p4), .val (.ref b338), .val (.ref r_418), .val (.int (Int32.ofNat pp_419)), .val (.int (Int32.ofNat sq)), .val (.int (Int32.ofNat el)), .unset] [(.int (1 : Int32)), (.int (Int32.ofNat pp_419))]))
    by_cases hc464 : (1 : Int32) < (Int32.ofNat pp_419)
    · refine OEnd.of (fun tq kq => XS.icmpNo X463.here hx rfl (hb hby at_239) rfl (tlt hc464).2.2.2 kq) ?_
      show OEnd p e below _ (T463.setTop (mkF m 242 #[.val (.int p0), .val (.int p1), .val (.int p2), .val (.int p3), .val (.int p4), .val (.ref b338), .val (.ref r_418), .val (.int (Int32.ofNat pp_419)), .val (.int (Int32.ofNat sq)), .val (.int (Int32.ofNat el)), .unset] []))
      refine OEnd.of (fun tq kq => XS.aload X463.here hx rfl (hb hby at_242) rfl rfl kq) ?_
      show OEnd p e below _ (T463.setTop (mkF m 244 #[.val (.int p0), .val (.int p1), .val (.int p2), .val (.int p3), .val (.int p4), .val (.ref b338), .val (.ref r_418), .val (.int (Int32.ofNat pp_419)), .val (.int (Int32.ofNat sq)), .val (.int (Int32.ofNat el)), .unset] [(.ref b338)]))
      refine OEnd.of (fun tq kq => XS.iconst X463.here hx rfl (hb hby at_244) kq) ?_
      show OEnd p e below _ (T463.setTop (mkF m 245 #[.val (.int p0), .val (.int p1), .val (.int p2), .val (.int p3), .val (.int p4), .val (.ref b338), .val (.ref r_418), .val (.int (Int32.ofNat pp_419)), .val (.int (Int32.ofNat sq)), .val (.int (Int32.ofNat el)), .unset] [(.int (1 : Int32)), (.ref b338)]))
      have K465 : Keep h391 h413 [] := ((K403.trans Kq405 (allS (Or.inr (Nat.le_of_eq g396.symm)) all0)).trans Kq413 all0)
      have Vc466 := (V392.keep K465 nin0)
      obtain ⟨cl466, Ar466, q466, S466, N466, H466, G466⟩ := Vc466
      have hin466 : ¬ ((1 : Int32) < 0 ∨ cl466.slots.size ≤ ((1 : Int32)).toNatClampNeg) := inb_of S466 ⟨by decide, by decide⟩
      refine OEnd.of (X463.caload hx (j := (1 : Int32)) (v := (.int ch_355)) (by rw [e463]; exact Ar466.1) (State.isArrayOf_alike hZ463.alike Ar466.2.1) Ar466.2.2 hin466 (H466.at hin466 rfl) (g := (mkF m 245 #[.val (.int p0), .val (.int p1), .val (.int p2), .val (.int p3), .val (.int p4), .val (.ref b338), .val (.ref r_418), .val (.int (Int32.ofNat pp_419)), .val (.int (Int32.ofNat sq)), .val (.int (Int32.ofNat el)), .unset] [(.int (1 : Int32)), (.ref b338)])) rfl rfl (hb hby at_245)) ?_
      show OEnd p e below _ (T463.setTop (mkF m 246 #[.val (.int p0), .val (.int p1), .val (.int p2), .val (.int p3), .val (.int p4), .val (.ref b338), .val (.ref r_418), .val (.int (Int32.ofNat pp_419)), .val (.int (Int32.ofNat sq)), .val (.int (Int32.ofNat el)), .unset] [(.int ch_355)]))
      refine OEnd.of (fun tq kq => XS.bipush X463.here hx rfl (hb hby at_246) kq) ?_
      show OEnd p e below _ (T463.setTop (mkF m 248 #[.val (.int p0), .val (.int p1), .val (.int p2), .val (.int p3), .val (.int p4), .val (.ref b338), .val (.ref r_418), .val (.int (Int32.ofNat pp_419)), .val (.int (Int32.ofNat sq)), .val (.int (Int32.ofNat el)), .unset] [(.int (32 : Int32)), (.int ch_355)]))
      by_cases hc467 : (32 : Int32) < ch_355
      · refine OEnd.of (fun tq kq => XS.icmpNo X463.here hx rfl (hb hby at_248) rfl (tlt hc467).2.2.2 kq) ?_
        show OEnd p e below _ (T463.setTop (mkF m 251 #[.val (.int p0), .val (.int p1), .val (.int p2), .val (.int p3), .val (.int p4), .val (.ref b338), .val (.ref r_418), .val (.int (Int32.ofNat pp_419)), .val (.int (Int32.ofNat sq)), .val (.int (Int32.ofNat el)), .unset] []))
        refine OEnd.of (fun tq kq => XS.iconst X463.here hx rfl (hb hby at_251) kq) ?_
        show OEnd p e below _ (T463.setTop (mkF m 252 #[.val (.int p0), .val (.int p1), .val (.int p2), .val (.int p3), .val (.int p4), .val (.ref b338), .val (.ref r_418), .val (.int (Int32.ofNat pp_419)), .val (.int (Int32.ofNat sq)), .val (.int (Int32.ofNat el)), .unset] [(.int (2 : Int32))]))
        refine OEnd.of (fun tq kq => XS.istore X463.here hx rfl (hb hby at_252) rfl (l' := #[.val (.int p0), .val (.int p1), .val (.int p2), .val (.int p3), .val (.int p4), .val (.ref b338), .val (.ref r_418), .val (.int (Int32.ofNat pp_419)), .val (.int (Int32.ofNat sq)), .val (.int (2 : Int32)), .unset]) rfl kq) ?_
        show OEnd p e below _ (T463.setTop (mkF m 254 #[.val (.int p0), .val (.int p1), .val (.int p2), .val (.int p3), .val (.int p4), .val (.ref b338), .val (.ref r_418), .val (.int (Int32.ofNat pp_419)), .val (.int (Int32.ofNat sq)), .val (.int (2 : Int32)), .unset] []))
        exact J458 _ T463 _ sq 2 X463 e463 N463 ⟨_, hS463, hk463⟩ hZ463 hown463 HR463 hS (own_Lst.yes (D := (fun j => (32 : Int32) < [ch_344, ch_355, ch_366, ch_377, ch_388].getD j 0)) (i := 1) ((own_ltN (a := 1) (by decide) (Nat.le_trans hpp (by decide))).mp hc464) hc467)
      · refine OEnd.of (fun tq kq => XS.icmpYes X463.here hx rfl (pc0 := 248) (pc' := 254) rfl (hb hby at_248) rfl (flt hc467).2.2.2 (by decide) (by decide) kq) ?_
        show OEnd p e below _ (T463.setTop (mkF m 254 #[.val (.int p0), .val (.int p1), .val (.int p2), .val (.int p3), .val (.int p4), .val (.ref b338), .val (.ref r_418), .val (.int (Int32.ofNat pp_419)), .val (.int (Int32.ofNat sq)), .val (.int (Int32.ofNat el)), .unset] []))
        exact J458 _ T463 _ sq el X463 e463 N463 ⟨_, hS463, hk463⟩ hZ463 hown463 HR463 hS (own_Lst.no hE (fun q => hc467 q.2))
    · refine OEnd.of (fun tq kq => XS.icmpYes X463.here hx rfl (pc0 := 239) (pc' := 254) rfl (hb hby at_239) rfl (flt hc464).2.2.2 (by decide) (by decide) kq) ?_
      show OEnd p e below _ (T463.setTop (mkF m 254 #[.val (.int p0), .val (.int p1), .val (.int p2), .val (.int p3), .val (.int p4), .val (.ref b338), .val (.ref r_418), .val (.int (Int32.ofNat pp_419)), .val (.int (Int32.ofNat sq)), .val (.int (Int32.ofNat el)), .unset] []))
      exact J458 _ T463 _ sq el X463 e463 N463 ⟨_, hS463, hk463⟩ hZ463 hown463 HR463 hS (own_Lst.no hE (fun q => hc464 ((own_ltN (a := 1) (by decide) (Nat.le_trans hpp (by decide))).mpr q.1)))
  have J468 : ∀ (vm468 : Vm) (T468 : State) (Lo468 : List Loc) (sq : Nat), Stand p l e room_1 (s.setVm vm468) m #[(.int p0), (.int p1), (.int p2), (.int p3), (.int p4)] below meth c T468 Lo468 15 86 → T468.heap = h413 → Fr Z.heap.size Lo468 → (∃ k0, s.Since vm468 k0 ∧ k0 ≤ h413.size) → Z.Warmed39 (s.setVm vm468).vm → (s.setVm vm468).vm.findClass "com/example/postil/postil/server/HeaderFieldsMediaTypePinLaw" = some m.cls → CHr Z EL s.vm h0 vm468 h413 → (own_Fst (fun j => (32 : Int32) < [ch_344, ch_355, ch_366, ch_377, ch_388].getD j 0) 0 pp_419 sq) → OEnd p e below (GW s Z EL (Qrm0 Z zc fm rt bl lg lv lk ci p0 p1 p2 p3 p4 h0) 40 4288) (T468.setTop (mkF m 216 #[.val (.int p0), .val (.int p1), .val (.int p2), .val (.int p3), .val (.int p4), .val (.ref b338), .val (.ref r_418), .val (.int (Int32.ofNat pp_419)), .val (.int (Int32.ofNat sq)), .unset, .unset] [])) := by
    rintro vm468 T468 Lo468 sq X468 e468 N468 ⟨kk468, hS468, hk468⟩ hZ468 hown468 HR468 hS
    show OEnd p e below _ (T468.setTop (mkF m 216 #[.val (.int p0), .val (.int p1), .val (.int p2), .val (.int p3), .val (.int p4), .val (.ref b338), .val (.ref r_418), .val (.int (Int32.ofNat pp_419)), .val (.int (Int32.ofNat sq)), .unset, .unset] []))
    refine OEnd.of (fun tq kq => XS.iconst X468.here hx rfl (hb hby at_216) kq) ?_
    show OEnd p e below _ (T468.setTop (mkF m 217 #[.val (.int p0), .val (.int p1), .val (.int p2), .val (.int p3), .val (.int p4), .val (.ref b338), .val (.ref r_418), .val (.int (Int32.ofNat pp_419)), .val (.int (Int32.ofNat sq)), .unset, .unset] [(.int (0 : Int32))]))
    refine OEnd.of (fun tq kq => XS.istore X468.here hx rfl (hb hby at_217) rfl (l' := #[.val (.int p0), .val (.int p1), .val (.int p2), .val (.int p3), .val (.int p4), .val (.ref b338), .val (.ref r_418), .val (.int (Int32.ofNat pp_419)), .val (.int (Int32.ofNat sq)), .val (.int (0 : Int32)), .unset]) rfl kq) ?_
    show OEnd p e below _ (T468.setTop (mkF m 219 #[.val (.int p0), .val (.int p1), .val (.int p2), .val (.int p3), .val (.int p4), .val (.ref b338), .val (.ref r_418), .val (.int (Int32.ofNat pp_419)), .val (.int (Int32.ofNat sq)), .val (.int (0 : Int32)), .unset] []))
    refine OEnd.of (fun tq kq => XS.iload X468.here hx rfl (hb hby at_219) rfl kq) ?_
    show OEnd p e below _ (T468.setTop (mkF m 221 #[.val (.int p0), .val (.int p1), .val (.int p2), .val (.int p3), .val (.int p4), .val (.ref b338), .val (.ref r_418), .val (.int (Int32.ofNat pp_419)), .val (.int (Int32.ofNat sq)), .val (.int (0 : Int32)), .unset] [(.int (Int32.ofNat pp_419))]))
    by_cases hc469 : (0 : Int32) < (Int32.ofNat pp_419)
    · refine OEnd.of (fun tq kq => XS.ifNo X468.here hx rfl (hb hby at_221) rfl ((if0 _ _).trans (tlt hc469).2.2.2) kq) ?_
      show OEnd p e below _ (T468.setTop (mkF m 224 #[.val (.int p0), .val (.int p1), .val (.int p2), .val (.int p3), .val (.int p4), .val (.ref b338), .val (.ref r_418), .val (.int (Int32.ofNat pp_419)), .val (.int (Int32.ofNat sq)), .val (.int (0 : Int32)), .unset] []))
      refine OEnd.of (fun tq kq => XS.aload X468.here hx rfl (hb hby at_224) rfl rfl kq) ?_
      show OEnd p e below _ (T468.setTop (mkF m 226 #[.val (.int p0), .val (.int p1), .val (.int p2), .val (.int p3), .val (.int p4), .val (.ref b338), .val (.ref r_418), .val (.int (Int32.ofNat pp_419)), .val (.int (Int32.ofNat sq)), .val (.int (0 : Int32)), .unset] [(.ref b338)]))
      refine OEnd.of (fun tq kq => XS.iconst X468.here hx rfl (hb hby at_226) kq) ?_
      show OEnd p e below _ (T468.setTop (mkF m 227 #[.val (.int p0), .val (.int p1), .val (.int p2), .val (.int p3), .val (.int p4), .val (.ref b338), .val (.ref r_418), .val (.int (Int32.ofNat pp_419)), .val (.int (Int32.ofNat sq)), .val (.int (0 : Int32)), .unset] [(.int (0 : Int32)), (.ref b338)]))
      have K470 : Keep h391 h413 [] := ((K403.trans Kq405 (allS (Or.inr (Nat.le_of_eq g396.symm)) all0)).trans Kq413 all0)
      have Vc471 := (V392.keep K470 nin0)
      obtain ⟨cl471, Ar471, q471, S471, N471, H471, G471⟩ := Vc471
      have hin471 : ¬ ((0 : Int32) < 0 ∨ cl471.slots.size ≤ ((0 : Int32)).toNatClampNeg) := inb_of S471 ⟨by decide, by decide⟩
      refine OEnd.of (X468.caload hx (j := (0 : Int32)) (v := (.int ch_344)) (by rw [e468]; exact Ar471.1) (State.isArrayOf_alike hZ468.alike Ar471.2.1) Ar471.2.2 hin471 (H471.at hin471 rfl) (g := (mkF m 227 #[.val (.int p0), .val (.int p1), .val (.int p2), .val (.int p3), .val (.int p4), .val (.ref b338), .val (.ref r_418), .val (.int (Int32.ofNat pp_419)), .val (.int (Int32.ofNat sq)), .val (.int (0 : Int32)), .unset] [(.int (0 : Int32)), (.ref b338)])) rfl rfl (hb hby at_227)) ?_
      show OEnd p e below _ (T468.setTop (mkF m 228 #[.val (.int p0), .val (.int p1), .val (.int p2), .val (.int p3), .val (.int p4), .val (.ref b338), .val (.ref r_418), .val (.int (Int32.ofNat pp_419)), .val (.int (Int32.ofNat sq)), .val (.int (0 : Int32)), .unset] [(.int ch_344)]))
      refine OEnd.of (fun tq kq => XS.bipush X468.here hx rfl (hb hby at_228) kq) ?_
      show OEnd p e below _ (T468.setTop (mkF m 230 #[.val (.int p0), .val (.int p1), .val (.int p2), .val (.int p3), .val (.int p4), .val (.ref b338), .val (.ref r_418), .val (.int (Int32.ofNat pp_419)), .val (.int (Int32.ofNat sq)), .val (.int (0 : Int32)), .unset] [(.int (32 : Int32)), (.int ch_344)]))
      by_cases hc472 : (32 : Int32) < ch_344
      · refine OEnd.of (fun tq kq => XS.icmpNo X468.here hx rfl (hb hby at_230) rfl (tlt hc472).2.2.2 kq) ?_
        show OEnd p e below _ (T468.setTop (mkF m 233 #[.val (.int p0), .val (.int p1), .val (.int p2), .val (.int p3), .val (.int p4), .val (.ref b338), .val (.ref r_418), .val (.int (Int32.ofNat pp_419)), .val (.int (Int32.ofNat sq)), .val (.int (0 : Int32)), .unset] []))
        refine OEnd.of (fun tq kq => XS.iconst X468.here hx rfl (hb hby at_233) kq) ?_
        show OEnd p e below _ (T468.setTop (mkF m 234 #[.val (.int p0), .val (.int p1), .val (.int p2), .val (.int p3), .val (.int p4), .val (.ref b338), .val (.ref r_418), .val (.int (Int32.ofNat pp_419)), .val (.int (Int32.ofNat sq)), .val (.int (0 : Int32)), .unset] [(.int (1 : Int32))]))
        refine OEnd.of (fun tq kq => XS.istore X468.here hx rfl (hb hby at_234) rfl (l' := #[.val (.int p0), .val (.int p1), .val (.int p2), .val (.int p3), .val (.int p4), .val (.ref b338), .val (.ref r_418), .val (.int (Int32.ofNat pp_419)), .val (.int (Int32.ofNat sq)), .val (.int (1 : Int32)), .unset]) rfl kq) ?_
        show OEnd p e below _ (T468.setTop (mkF m 236 #[.val (.int p0), .val (.int p1), .val (.int p2), .val (.int p3), .val (.int p4), .val (.ref b338), .val (.ref r_418), .val (.int (Int32.ofNat pp_419)), .val (.int (Int32.ofNat sq)), .val (.int (1 : Int32)), .unset] []))
        exact J463 _ T468 _ sq 1 X468 e468 N468 ⟨_, hS468, hk468⟩ hZ468 hown468 HR468 hS (own_Lst.yes (D := (fun j => (32 : Int32) < [ch_344, ch_355, ch_366, ch_377, ch_388].getD j 0)) (i := 0) ((own_ltN (a := 0) (by decide) (Nat.le_trans hpp (by decide))).mp hc469) hc472)
      · refine OEnd.of (fun tq kq => XS.icmpYes X468.here hx rfl (pc0 := 230) (pc' := 236) rfl (hb hby at_230) rfl (flt hc472).2.2.2 (by decide) (by decide) kq) ?_
        show OEnd p e below _ (T468.setTop (mkF m 236 #[.val (.int p0), .val (.int p1), .val (.int p2), .val (.int p3), .val (.int p4), .val (.ref b338), .val (.ref r_418), .val (.int (Int32.ofNat pp_419)), .val (.int (Int32.ofNat sq)), .val (.int (0 : Int32)), .unset] []))
        exact J463 _ T468 _ sq 0 X468 e468 N468 ⟨_, hS468, hk468⟩ hZ468 hown468 HR468 hS (own_Lst.no (own_Lst.base (D := (fun j => (32 : Int32) < [ch_344, ch_355, ch_366, ch_377, ch_388].getD j 0))) (fun q => hc472 q.2))
    · refine OEnd.of (fun tq kq => XS.ifYes X468.here hx rfl (pc0 := 221) (pc' := 236) rfl (hb hby at_221) rfl ((if0 _ _).trans (flt hc469).2.2.2) (by decide) (by decide) kq) ?_
      show OEnd p e below _ (T468.setTop (mkF m 236 #[.val (.int p0), .val (.int p1), .val (.int p2), .val (.int p3), .val (.int p4), .val (.ref b338), .val (.ref r_418), .val (.int (Int32.ofNat pp_419)), .val (.int (Int32.ofNat sq)), .val (.int (0 : Int32)), .unset] []))
      exact J463 _ T468 _ sq 0 X468 e468 N468 ⟨_, hS468, hk468⟩ hZ468 hown468 HR468 hS (own_Lst.no (own_Lst.base (D := (fun j => (32 : Int32) < [ch_344, ch_355, ch_366, ch_377, ch_388].getD j 0))) (fun q => hc469 ((own_ltN (a := 0) (by decide) (Nat.le_trans hpp (by decide))).mpr q.1)))
  have J473 : ∀ (vm473 : Vm) (T473 : State) (Lo473 : List Loc) (sq : Nat), Stand p l e room_1 (s.setVm vm473) m #[(.int p0), (.int p1), (.int p2), (.int p3), (.int p4)] below meth c T473 Lo473 15 86 → T473.heap = h413 → Fr Z.heap.size Lo473 → (∃ k0, s.Since vm473 k0 ∧ k0 ≤ h413.size) → Z.Warmed39 (s.setVm vm473).vm → (s.setVm vm473).vm.findClass "com/example/postil/postil/server/HeaderFieldsMediaTypePinLaw" = some m.cls → CHr Z EL s.vm h0 vm473 h413 → (own_Fst (fun j => (32 : Int32) < [ch_344, ch_355, ch_366, ch_377, ch_388].getD j 0) 1 pp_419 sq) → OEnd p e below (GW s Z EL (Qrm0 Z zc fm rt bl lg lv lk ci p0 p1 p2 p3 p4 h0) 40 4288) (T473.setTop (mkF m 199 #[.val (.int p0), .val (.int p1), .val (.int p2), .val (.int p3), .val (.int p4), .val (.ref b338), .val (.ref r_418), .val (.int (Int32.ofNat pp_419)), .val (.int (Int32.ofNat sq)), .unset, .unset] [])) := by
    rintro vm473 T473 Lo473 sq X473 e473 N473 ⟨kk473, hS473, hk473⟩ hZ473 hown473 HR473 hS
    show OEnd p e below _ (T473.setTop (mkF m 199 #[.val (.int p0), .val (.int p1), .val (.int p2), .val (.int p3), .val (.int p4), .val (.ref b338), .val (.ref r_418), .val (.int (Int32.ofNat pp_419)), .val (.int (Int32.ofNat sq)), .unset, .unset] []))
    refine OEnd.of (fun tq kq => XS.iload X473.here hx rfl (hb hby at_199) rfl kq) ?_
    show OEnd p e below _ (T473.setTop (mkF m 201 #[.val (.int p0), .val (.int p1), .val (.int p2), .val (.int p3), .val (.int p4), .val (.ref b338), .val (.ref r_418), .val (.int (Int32.ofNat pp_419)), .val (.int (Int32.ofNat sq)), .unset, .unset] [(.int (Int32.ofNat pp_419))]))
    by_cases hc474 : (0 : Int32) < (Int32.ofNat pp_419)
    · refine OEnd.of (fun tq kq => XS.ifNo X473.here hx rfl (hb hby at_201) rfl ((if0 _ _).trans (tlt hc474).2.2.2) kq) ?_
      show OEnd p e below _ (T473.setTop (mkF m 204 #[.val (.int p0), .val (.int p1), .val (.int p2), .val (.int p3), .val (.int p4), .val (.ref b338), .val (.ref r_418), .val (.int (Int32.ofNat pp_419)), .val (.int (Int32.ofNat sq)), .unset, .unset] []))
      refine OEnd.of (fun tq kq => XS.aload X473.here hx rfl (hb hby at_204) rfl rfl kq) ?_
      show OEnd p e below _ (T473.setTop (mkF m 206 #[.val (.int p0), .val (.int p1), .val (.int p2), .val (.int p3), .val (.int p4), .val (.ref b338), .val (.ref r_418), .val (.int (Int32.ofNat pp_419)), .val (.int (Int32.ofNat sq)), .unset, .unset] [(.ref b338)]))
      refine OEnd.of (fun tq kq => XS.iconst X473.here hx rfl (hb hby at_206) kq) ?_
      show OEnd p e below _ (T473.setTop (mkF m 207 #[.val (.int p0), .val (.int p1), .val (.int p2), .val (.int p3), .val (.int p4), .val (.ref b338), .val (.ref r_418), .val (.int (Int32.ofNat pp_419)), .val (.int (Int32.ofNat sq)), .unset, .unset] [(.int (0 : Int32)), (.ref b338)]))
      have K475 : Keep h391 h413 [] := ((K403.trans Kq405 (allS (Or.inr (Nat.le_of_eq g396.symm)) all0)).trans Kq413 all0)
      have Vc476 := (V392.keep K475 nin0)
      obtain ⟨cl476, Ar476, q476, S476, N476, H476, G476⟩ := Vc476
      have hin476 : ¬ ((0 : Int32) < 0 ∨ cl476.slots.size ≤ ((0 : Int32)).toNatClampNeg) := inb_of S476 ⟨by decide, by decide⟩
      refine OEnd.of (X473.caload hx (j := (0 : Int32)) (v := (.int ch_344)) (by rw [e473]; exact Ar476.1) (State.isArrayOf_alike hZ473.alike Ar476.2.1) Ar476.2.2 hin476 (H476.at hin476 rfl) (g := (mkF m 207 #[.val (.int p0), .val (.int p1), .val (.int p2), .val (.int p3), .val (.int p4), .val (.ref b338), .val (.ref r_418), .val (.int (Int32.ofNat pp_419)), .val (.int (Int32.ofNat sq)), .unset, .unset] [(.int (0 : Int32)), (.ref b338)])) rfl rfl (hb hby at_207)) ?_
      show OEnd p e below _ (T473.setTop (mkF m 208 #[.val (.int p0), .val (.int p1), .val (.int p2), .val (.int p3), .val (.int p4), .val (.ref b338), .val (.ref r_418), .val (.int (Int32.ofNat pp_419)), .val (.int (Int32.ofNat sq)), .unset, .unset] [(.int ch_344)]))
      refine OEnd.of (fun tq kq => XS.bipush X473.here hx rfl (hb hby at_208) kq) ?_
      show OEnd p e below _ (T473.setTop (mkF m 210 #[.val (.int p0), .val (.int p1), .val (.int p2), .val (.int p3), .val (.int p4), .val (.ref b338), .val (.ref r_418), .val (.int (Int32.ofNat pp_419)), .val (.int (Int32.ofNat sq)), .unset, .unset] [(.int (32 : Int32)), (.int ch_344)]))
      by_cases hc477 : (32 : Int32) < ch_344
      · refine OEnd.of (fun tq kq => XS.icmpNo X473.here hx rfl (hb hby at_210) rfl (tlt hc477).2.2.2 kq) ?_
        show OEnd p e below _ (T473.setTop (mkF m 213 #[.val (.int p0), .val (.int p1), .val (.int p2), .val (.int p3), .val (.int p4), .val (.ref b338), .val (.ref r_418), .val (.int (Int32.ofNat pp_419)), .val (.int (Int32.ofNat sq)), .unset, .unset] []))
        refine OEnd.of (fun tq kq => XS.iconst X473.here hx rfl (hb hby at_213) kq) ?_
        show OEnd p e below _ (T473.setTop (mkF m 214 #[.val (.int p0), .val (.int p1), .val (.int p2), .val (.int p3), .val (.int p4), .val (.ref b338), .val (.ref r_418), .val (.int (Int32.ofNat pp_419)), .val (.int (Int32.ofNat sq)), .unset, .unset] [(.int (0 : Int32))]))
        refine OEnd.of (fun tq kq => XS.istore X473.here hx rfl (hb hby at_214) rfl (l' := #[.val (.int p0), .val (.int p1), .val (.int p2), .val (.int p3), .val (.int p4), .val (.ref b338), .val (.ref r_418), .val (.int (Int32.ofNat pp_419)), .val (.int (0 : Int32)), .unset, .unset]) rfl kq) ?_
        show OEnd p e below _ (T473.setTop (mkF m 216 #[.val (.int p0), .val (.int p1), .val (.int p2), .val (.int p3), .val (.int p4), .val (.ref b338), .val (.ref r_418), .val (.int (Int32.ofNat pp_419)), .val (.int (0 : Int32)), .unset, .unset] []))
        exact J468 _ T473 _ 0 X473 e473 N473 ⟨_, hS473, hk473⟩ hZ473 hown473 HR473 (own_Fst.yes (D := (fun j => (32 : Int32) < [ch_344, ch_355, ch_366, ch_377, ch_388].getD j 0)) (i := 0) ((own_ltN (a := 0) (by decide) (Nat.le_trans hpp (by decide))).mp hc474) hc477)
      · refine OEnd.of (fun tq kq => XS.icmpYes X473.here hx rfl (pc0 := 210) (pc' := 216) rfl (hb hby at_210) rfl (flt hc477).2.2.2 (by decide) (by decide) kq) ?_
        show OEnd p e below _ (T473.setTop (mkF m 216 #[.val (.int p0), .val (.int p1), .val (.int p2), .val (.int p3), .val (.int p4), .val (.ref b338), .val (.ref r_418), .val (.int (Int32.ofNat pp_419)), .val (.int (Int32.ofNat sq)), .unset, .unset] []))
        exact J468 _ T473 _ sq X473 e473 N473 ⟨_, hS473, hk473⟩ hZ473 hown473 HR473 (own_Fst.no hS (fun q => hc477 q.2))
    · refine OEnd.of (fun tq kq => XS.ifYes X473.here hx rfl (pc0 := 201) (pc' := 216) rfl (hb hby at_201) rfl ((if0 _ _).trans (flt hc474).2.2.2) (by decide) (by decide) kq) ?_
      show OEnd p e below _ (T473.setTop (mkF m 216 #[.val (.int p0), .val (.int p1), .val (.int p2), .val (.int p3), .val (.int p4), .val (.ref b338), .val (.ref r_418), .val (.int (Int32.ofNat pp_419)), .val (.int (Int32.ofNat sq)), .unset, .unset] []))
      exact J468 _ T473 _ sq X473 e473 N473 ⟨_, hS473, hk473⟩ hZ473 hown473 HR473 (own_Fst.no hS (fun q => hc474 ((own_ltN (a := 0) (by decide) (Nat.le_trans hpp (by decide))).mpr q.1)))
  have J478 : ∀ (vm478 : Vm) (T478 : State) (Lo478 : List Loc) (sq : Nat), Stand p l e room_1 (s.setVm vm478) m #[(.int p0), (.int p1), (.int p2), (.int p3), (.int p4)] below meth c T478 Lo478 15 86 → T478.heap = h413 → Fr Z.heap.size Lo478 → (∃ k0, s.Since vm478 k0 ∧ k0 ≤ h413.size) → Z.Warmed39 (s.setVm vm478).vm → (s.setVm vm478).vm.findClass "com/example/postil/postil/server/HeaderFieldsMediaTypePinLaw" = some m.cls → CHr Z EL s.vm h0 vm478 h413 → (own_Fst (fun j => (32 : Int32) < [ch_344, ch_355, ch_366, ch_377, ch_388].getD j 0) 2 pp_419 sq) → OEnd p e below (GW s Z EL (Qrm0 Z zc fm rt bl lg lv lk ci p0 p1 p2 p3 p4 h0) 40 4288) (T478.setTop (mkF m 181 #[.val (.int p0), .val (.int p1), .val (.int p2), .val (.int p3), .val (.int p4), .val (.ref b338), .val (.ref r_418), .val (.int (Int32.ofNat pp_419)), .val (.int (Int32.ofNat sq)), .unset, .unset] [])) := by
    rintro vm478 T478 Lo478 sq X478 e478 N478 ⟨kk478, hS478, hk478⟩ hZ478 hown478 HR478 hS
    show OEnd p e below _ (T478.setTop (mkF m 181 #[.val (.int p0), .val (.int p1), .val (.int p2), .val (.int p3), .val (.int p4), .val (.ref b338), .val (.ref r_418), .val (.int (Int32.ofNat pp_419)), .val (.int (Int32.ofNat sq)), .unset, .unset] []))
    refine OEnd.of (fun tq kq => XS.iload X478.here hx rfl (hb hby at_181) rfl kq) ?_
    show OEnd p e below _ (T478.setTop (mkF m 183 #[.val (.int p0), .val (.int p1), .val (.int p2), .val (.int p3), .val (.int p4), .val (.ref b338), .val (.ref r_418), .val (.int (Int32.ofNat pp_419)), .val (.int (Int32.ofNat sq)), .unset, .unset] [(.int (Int32.ofNat pp_419))]))
    refine OEnd.of (fun tq kq => XS.iconst X478.here hx rfl (hb hby at_183) kq) ?_
    show OEnd p e below _ (T478.setTop (mkF m 184 #[.val (.int p0), .val (.int p1), .val (.int p2), .val (.int p3), .val (.int p4), .val (.ref b338), .val (.ref r_418), .val (.int (Int32.ofNat pp_419)), .val (.int (Int32.ofNat sq)), .unset, .unset] [(.int (1 : Int32)), (.int (Int32.ofNat pp_419))]))
    by_cases hc479 : (1 : Int32) < (Int32.ofNat pp_419)
    · refine OEnd.of (fun tq kq => XS.icmpNo X478.here hx rfl (hb hby at_184) rfl (tlt hc479).2.2.2 kq) ?_
      show OEnd p e below _ (T478.setTop (mkF m 187 #[.val (.int p0), .val (.int p1), .val (.int p2), .val (.int p3), .val (.int p4), .val (.ref b338), .val (.ref r_418), .val (.int (Int32.ofNat pp_419)), .val (.int (Int32.ofNat sq)), .unset, .unset] []))
      refine OEnd.of (fun tq kq => XS.aload X478.here hx rfl (hb hby at_187) rfl rfl kq) ?_
      show OEnd p e below _ (T478.setTop (mkF m 189 #[.val (.int p0), .val (.int p1), .val (.int p2), .val (.int p3), .val (.int p4), .val (.ref b338), .val (.ref r_418), .val (.int (Int32.ofNat pp_419)), .val (.int (Int32.ofNat sq)), .unset, .unset] [(.ref b338)]))
      refine OEnd.of (fun tq kq => XS.iconst X478.here hx rfl (hb hby at_189) kq) ?_
      show OEnd p e below _ (T478.setTop (mkF m 190 #[.val (.int p0), .val (.int p1), .val (.int p2), .val (.int p3), .val (.int p4), .val (.ref b338), .val (.ref r_418), .val (.int (Int32.ofNat pp_419)), .val (.int (Int32.ofNat sq)), .unset, .unset] [(.int (1 : Int32)), (.ref b338)]))
      have K480 : Keep h391 h413 [] := ((K403.trans Kq405 (allS (Or.inr (Nat.le_of_eq g396.symm)) all0)).trans Kq413 all0)
      have Vc481 := (V392.keep K480 nin0)
      obtain ⟨cl481, Ar481, q481, S481, N481, H481, G481⟩ := Vc481
      have hin481 : ¬ ((1 : Int32) < 0 ∨ cl481.slots.size ≤ ((1 : Int32)).toNatClampNeg) := inb_of S481 ⟨by decide, by decide⟩
      refine OEnd.of (X478.caload hx (j := (1 : Int32)) (v := (.int ch_355)) (by rw [e478]; exact Ar481.1) (State.isArrayOf_alike hZ478.alike Ar481.2.1) Ar481.2.2 hin481 (H481.at hin481 rfl) (g := (mkF m 190 #[.val (.int p0), .val (.int p1), .val (.int p2), .val (.int p3), .val (.int p4), .val (.ref b338), .val (.ref r_418), .val (.int (Int32.ofNat pp_419)), .val (.int (Int32.ofNat sq)), .unset, .unset] [(.int (1 : Int32)), (.ref b338)])) rfl rfl (hb hby at_190)) ?_
      show OEnd p e below _ (T478.setTop (mkF m 191 #[.val (.int p0), .val (.int p1), .val (.int p2), .val (.int p3), .val (.int p4), .val (.ref b338), .val (.ref r_418), .val (.int (Int32.ofNat pp_419)), .val (.int (Int32.ofNat sq)), .unset, .unset] [(.int ch_355)]))
      refine OEnd.of (fun tq kq => XS.bipush X478.here hx rfl (hb hby at_191) kq) ?_
      show OEnd p e below _ (T478.setTop (mkF m 193 #[.val (.int p0), .val (.int p1), .val (.int p2), .val (.int p3), .val (.int p4), .val (.ref b338), .val (.ref r_418), .val (.int (Int32.ofNat pp_419)), .val (.int (Int32.ofNat sq)), .unset, .unset] [(.int (32 : Int32)), (.int ch_355)]))
      by_cases hc482 : (32 : Int32) < ch_355
      · refine OEnd.of (fun tq kq => XS.icmpNo X478.here hx rfl (hb hby at_193) rfl (tlt hc482).2.2.2 kq) ?_
        show OEnd p e below _ (T478.setTop (mkF m 196 #[.val (.int p0), .val (.int p1), .val (.int p2), .val (.int p3), .val (.int p4), .val (.ref b338), .val (.ref r_418), .val (.int (Int32.ofNat pp_419)), .val (.int (Int32.ofNat sq)), .unset, .unset] []))
        refine OEnd.of (fun tq kq => XS.iconst X478.here hx rfl (hb hby at_196) kq) ?_
        show OEnd p e below _ (T478.setTop (mkF m 197 #[.val (.int p0), .val (.int p1), .val (.int p2), .val (.int p3), .val (.int p4), .val (.ref b338), .val (.ref r_418), .val (.int (Int32.ofNat pp_419)), .val (.int (Int32.ofNat sq)), .unset, .unset] [(.int (1 : Int32))]))
        refine OEnd.of (fun tq kq => XS.istore X478.here hx rfl (hb hby at_197) rfl (l' := #[.val (.int p0), .val (.int p1), .val (.int p2), .val (.int p3), .val (.int p4), .val (.ref b338), .val (.ref r_418), .val (.int (Int32.ofNat pp_419)), .val (.int (1 : Int32)), .unset, .unset]) rfl kq) ?_
        show OEnd p e below _ (T478.setTop (mkF m 199 #[.val (.int p0), .val (.int p1), .val (.int p2), .val (.int p3), .val (.int p4), .val (.ref b338), .val (.ref r_418), .val (.int (Int32.ofNat pp_419)), .val (.int (1 : Int32)), .unset, .unset] []))
        exact J473 _ T478 _ 1 X478 e478 N478 ⟨_, hS478, hk478⟩ hZ478 hown478 HR478 (own_Fst.yes (D := (fun j => (32 : Int32) < [ch_344, ch_355, ch_366, ch_377, ch_388].getD j 0)) (i := 1) ((own_ltN (a := 1) (by decide) (Nat.le_trans hpp (by decide))).mp hc479) hc482)
      · refine OEnd.of (fun tq kq => XS.icmpYes X478.here hx rfl (pc0 := 193) (pc' := 199) rfl (hb hby at_193) rfl (flt hc482).2.2.2 (by decide) (by decide) kq) ?_
        show OEnd p e below _ (T478.setTop (mkF m 199 #[.val (.int p0), .val (.int p1), .val (.int p2), .val (.int p3), .val (.int p4), .val (.ref b338), .val (.ref r_418), .val (.int (Int32.ofNat pp_419)), .val (.int (Int32.ofNat sq)), .unset, .unset] []))
        exact J473 _ T478 _ sq X478 e478 N478 ⟨_, hS478, hk478⟩ hZ478 hown478 HR478 (own_Fst.no hS (fun q => hc482 q.2))
    · refine OEnd.of (fun tq kq => XS.icmpYes X478.here hx rfl (pc0 := 184) (pc' := 199) rfl (hb hby at_184) rfl (flt hc479).2.2.2 (by decide) (by decide) kq) ?_
      show OEnd p e below _ (T478.setTop (mkF m 199 #[.val (.int p0), .val (.int p1), .val (.int p2), .val (.int p3), .val (.int p4), .val (.ref b338), .val (.ref r_418), .val (.int (Int32.ofNat pp_419)), .val (.int (Int32.ofNat sq)), .unset, .unset] []))
      exact J473 _ T478 _ sq X478 e478 N478 ⟨_, hS478, hk478⟩ hZ478 hown478 HR478 (own_Fst.no hS (fun q => hc479 ((own_ltN (a := 1) (by decide) (Nat.le_trans hpp (by decide))).mpr q.1)))
  have J483 : ∀ (vm483 : Vm) (T483 : State) (Lo483 : List Loc) (sq : Nat), Stand p l e room_1 (s.setVm vm483) m #[(.int p0), (.int p1), (.int p2), (.int p3), (.int p4)] below meth c T483 Lo483 15 86 → T483.heap = h413 → Fr Z.heap.size Lo483 → (∃ k0, s.Since vm483 k0 ∧ k0 ≤ h413.size) → Z.Warmed39 (s.setVm vm483).vm → (s.setVm vm483).vm.findClass "com/example/postil/postil/server/HeaderFieldsMediaTypePinLaw" = some m.cls → CHr Z EL s.vm h0 vm483 h413 → (own_Fst (fun j => (32 : Int32) < [ch_344, ch_355, ch_366, ch_377, ch_388].getD j 0) 3 pp_419 sq) → OEnd p e below (GW s Z EL (Qrm0 Z zc fm rt bl lg lv lk ci p0 p1 p2 p3 p4 h0) 40 4288) (T483.setTop (mkF m 163 #[.val (.int p0), .val (.int p1), .val (.int p2), .val (.int p3), .val (.int p4), .val (.ref b338), .val (.ref r_418), .val (.int (Int32.ofNat pp_419)), .val (.int (Int32.ofNat sq)), .unset, .unset] [])) := by
    rintro vm483 T483 Lo483 sq X483 e483 N483 ⟨kk483, hS483, hk483⟩ hZ483 hown483 HR483 hS
    show OEnd p e below _ (T483.setTop (mkF m 163 #[.val (.int p0), .val (.int p1), .val (.int p2), .val (.int p3), .val (.int p4), .val (.ref b338), .val (.ref r_418), .val (.int (Int32.ofNat pp_419)), .val (.int (Int32.ofNat sq)), .unset, .unset] []))
    refine OEnd.of (fun tq kq => XS.iload X483.here hx rfl (hb hby at_163) rfl kq) ?_
    show OEnd p e below _ (T483.setTop (mkF m 165 #[.val (.int p0), .val (.int p1), .val (.int p2), .val (.int p3), .val (.int p4), .val (.ref b338), .val (.ref r_418), .val (.int (Int32.ofNat pp_419)), .val (.int (Int32.ofNat sq)), .unset, .unset] [(.int (Int32.ofNat pp_419))]))
    refine OEnd.of (fun tq kq => XS.iconst X483.here hx rfl (hb hby at_165) kq) ?_
    show OEnd p e below _ (T483.setTop (mkF m 166 #[.val (.int p0), .val (.int p1), .val (.int p2), .val (.int p3), .val (.int p4), .val (.ref b338), .val (.ref r_418), .val (.int (Int32.ofNat pp_419)), .val (.int (Int32.ofNat sq)), .unset, .unset] [(.int (2 : Int32)), (.int (Int32.ofNat pp_419))]))
    by_cases hc484 : (2 : Int32) < (Int32.ofNat pp_419)
    · refine OEnd.of (fun tq kq => XS.icmpNo X483.here hx rfl (hb hby at_166) rfl (tlt hc484).2.2.2 kq) ?_
      show OEnd p e below _ (T483.setTop (mkF m 169 #[.val (.int p0), .val (.int p1), .val (.int p2), .val (.int p3), .val (.int p4), .val (.ref b338), .val (.ref r_418), .val (.int (Int32.ofNat pp_419)), .val (.int (Int32.ofNat sq)), .unset, .unset] []))
      refine OEnd.of (fun tq kq => XS.aload X483.here hx rfl (hb hby at_169) rfl rfl kq) ?_
      show OEnd p e below _ (T483.setTop (mkF m 171 #[.val (.int p0), .val (.int p1), .val (.int p2), .val (.int p3), .val (.int p4), .val (.ref b338), .val (.ref r_418), .val (.int (Int32.ofNat pp_419)), .val (.int (Int32.ofNat sq)), .unset, .unset] [(.ref b338)]))
      refine OEnd.of (fun tq kq => XS.iconst X483.here hx rfl (hb hby at_171) kq) ?_
      show OEnd p e below _ (T483.setTop (mkF m 172 #[.val (.int p0), .val (.int p1), .val (.int p2), .val (.int p3), .val (.int p4), .val (.ref b338), .val (.ref r_418), .val (.int (Int32.ofNat pp_419)), .val (.int (Int32.ofNat sq)), .unset, .unset] [(.int (2 : Int32)), (.ref b338)]))
      have K485 : Keep h391 h413 [] := ((K403.trans Kq405 (allS (Or.inr (Nat.le_of_eq g396.symm)) all0)).trans Kq413 all0)
      have Vc486 := (V392.keep K485 nin0)
      obtain ⟨cl486, Ar486, q486, S486, N486, H486, G486⟩ := Vc486
      have hin486 : ¬ ((2 : Int32) < 0 ∨ cl486.slots.size ≤ ((2 : Int32)).toNatClampNeg) := inb_of S486 ⟨by decide, by decide⟩
      refine OEnd.of (X483.caload hx (j := (2 : Int32)) (v := (.int ch_366)) (by rw [e483]; exact Ar486.1) (State.isArrayOf_alike hZ483.alike Ar486.2.1) Ar486.2.2 hin486 (H486.at hin486 rfl) (g := (mkF m 172 #[.val (.int p0), .val (.int p1), .val (.int p2), .val (.int p3), .val (.int p4), .val (.ref b338), .val (.ref r_418), .val (.int (Int32.ofNat pp_419)), .val (.int (Int32.ofNat sq)), .unset, .unset] [(.int (2 : Int32)), (.ref b338)])) rfl rfl (hb hby at_172)) ?_
      show OEnd p e below _ (T483.setTop (mkF m 173 #[.val (.int p0), .val (.int p1), .val (.int p2), .val (.int p3), .val (.int p4), .val (.ref b338), .val (.ref r_418), .val (.int (Int32.ofNat pp_419)), .val (.int (Int32.ofNat sq)), .unset, .unset] [(.int ch_366)]))
      refine OEnd.of (fun tq kq => XS.bipush X483.here hx rfl (hb hby at_173) kq) ?_
      show OEnd p e below _ (T483.setTop (mkF m 175 #[.val (.int p0), .val (.int p1), .val (.int p2), .val (.int p3), .val (.int p4), .val (.ref b338), .val (.ref r_418), .val (.int (Int32.ofNat pp_419)), .val (.int (Int32.ofNat sq)), .unset, .unset] [(.int (32 : Int32)), (.int ch_366)]))
      by_cases hc487 : (32 : Int32) < ch_366
      · refine OEnd.of (fun tq kq => XS.icmpNo X483.here hx rfl (hb hby at_175) rfl (tlt hc487).2.2.2 kq) ?_
        show OEnd p e below _ (T483.setTop (mkF m 178 #[.val (.int p0), .val (.int p1), .val (.int p2), .val (.int p3), .val (.int p4), .val (.ref b338), .val (.ref r_418), .val (.int (Int32.ofNat pp_419)), .val (.int (Int32.ofNat sq)), .unset, .unset] []))
        refine OEnd.of (fun tq kq => XS.iconst X483.here hx rfl (hb hby at_178) kq) ?_
        show OEnd p e below _ (T483.setTop (mkF m 179 #[.val (.int p0), .val (.int p1), .val (.int p2), .val (.int p3), .val (.int p4), .val (.ref b338), .val (.ref r_418), .val (.int (Int32.ofNat pp_419)), .val (.int (Int32.ofNat sq)), .unset, .unset] [(.int (2 : Int32))]))
        refine OEnd.of (fun tq kq => XS.istore X483.here hx rfl (hb hby at_179) rfl (l' := #[.val (.int p0), .val (.int p1), .val (.int p2), .val (.int p3), .val (.int p4), .val (.ref b338), .val (.ref r_418), .val (.int (Int32.ofNat pp_419)), .val (.int (2 : Int32)), .unset, .unset]) rfl kq) ?_
        show OEnd p e below _ (T483.setTop (mkF m 181 #[.val (.int p0), .val (.int p1), .val (.int p2), .val (.int p3), .val (.int p4), .val (.ref b338), .val (.ref r_418), .val (.int (Int32.ofNat pp_419)), .val (.int (2 : Int32)), .unset, .unset] []))
        exact J478 _ T483 _ 2 X483 e483 N483 ⟨_, hS483, hk483⟩ hZ483 hown483 HR483 (own_Fst.yes (D := (fun j => (32 : Int32) < [ch_344, ch_355, ch_366, ch_377, ch_388].getD j 0)) (i := 2) ((own_ltN (a := 2) (by decide) (Nat.le_trans hpp (by decide))).mp hc484) hc487)
      · refine OEnd.of (fun tq kq => XS.icmpYes X483.here hx rfl (pc0 := 175) (pc' := 181) rfl (hb hby at_175) rfl (flt hc487).2.2.2 (by decide) (by decide) kq) ?_
        show OEnd p e below _ (T483.setTop (mkF m 181 #[.val (.int p0), .val (.int p1), .val (.int p2), .val (.int p3), .val (.int p4), .val (.ref b338), .val (.ref r_418), .val (.int (Int32.ofNat pp_419)), .val (.int (Int32.ofNat sq)), .unset, .unset] []))
        exact J478 _ T483 _ sq X483 e483 N483 ⟨_, hS483, hk483⟩ hZ483 hown483 HR483 (own_Fst.no hS (fun q => hc487 q.2))
    · refine OEnd.of (fun tq kq => XS.icmpYes X483.here hx rfl (pc0 := 166) (pc' := 181) rfl (hb hby at_166) rfl (flt hc484).2.2.2 (by decide) (by decide) kq) ?_
      show OEnd p e below _ (T483.setTop (mkF m 181 #[.val (.int p0), .val (.int p1), .val (.int p2), .val (.int p3), .val (.int p4), .val (.ref b338), .val (.ref r_418), .val (.int (Int32.ofNat pp_419)), .val (.int (Int32.ofNat sq)), .unset, .unset] []))
      exact J478 _ T483 _ sq X483 e483 N483 ⟨_, hS483, hk483⟩ hZ483 hown483 HR483 (own_Fst.no hS (fun q => hc484 ((own_ltN (a := 2) (by decide) (Nat.le_trans hpp (by decide))).mpr q.1)))
  have J488 : ∀ (vm488 : Vm) (T488 : State) (Lo488 : List Loc) (sq : Nat), Stand p l e room_1 (s.setVm vm488) m #[(.int p0), (.int p1), (.int p2), (.int p3), (.int p4)] below meth c T488 Lo488 15 86 → T488.heap = h413 → Fr Z.heap.size Lo488 → (∃ k0, s.Since vm488 k0 ∧ k0 ≤ h413.size) → Z.Warmed39 (s.setVm vm488).vm → (s.setVm vm488).vm.findClass "com/example/postil/postil/server/HeaderFieldsMediaTypePinLaw" = some m.cls → CHr Z EL s.vm h0 vm488 h413 → (own_Fst (fun j => (32 : Int32) < [ch_344, ch_355, ch_366, ch_377, ch_388].getD j 0) 4 pp_419 sq) → OEnd p e below (GW s Z EL (Qrm0 Z zc fm rt bl lg lv lk ci p0 p1 p2 p3 p4 h0) 40 4288) (T488.setTop (mkF m 145 #[.val (.int p0), .val (.int p1), .val (.int p2), .val (.int p3), .val (.int p4), .val (.ref b338), .val (.ref r_418), .val (.int (Int32.ofNat pp_419)), .val (.int (Int32.ofNat sq)), .unset, .unset] [])) := by
    rintro vm488 T488 Lo488 sq X488 e488 N488 ⟨kk488, hS488, hk488⟩ hZ488 hown488 HR488 hS
    show OEnd p e below _ (T488.setTop (mkF m 145 #[.val (.int p0), .val (.int p1), .val (.int p2), .val (.int p3), .val (.int p4), .val (.ref b338), .val (.ref r_418), .val (.int (Int32.ofNat pp_419)), .val (.int (Int32.ofNat sq)), .unset, .unset] []))
    refine OEnd.of (fun tq kq => XS.iload X488.here hx rfl (hb hby at_145) rfl kq) ?_
    show OEnd p e below _ (T488.setTop (mkF m 147 #[.val (.int p0), .val (.int p1), .val (.int p2), .val (.int p3), .val (.int p4), .val (.ref b338), .val (.ref r_418), .val (.int (Int32.ofNat pp_419)), .val (.int (Int32.ofNat sq)), .unset, .unset] [(.int (Int32.ofNat pp_419))]))
    refine OEnd.of (fun tq kq => XS.iconst X488.here hx rfl (hb hby at_147) kq) ?_
    show OEnd p e below _ (T488.setTop (mkF m 148 #[.val (.int p0), .val (.int p1), .val (.int p2), .val (.int p3), .val (.int p4), .val (.ref b338), .val (.ref r_418), .val (.int (Int32.ofNat pp_419)), .val (.int (Int32.ofNat sq)), .unset, .unset] [(.int (3 : Int32)), (.int (Int32.ofNat pp_419))]))
    by_cases hc489 : (3 : Int32) < (Int32.ofNat pp_419)
    · refine OEnd.of (fun tq kq => XS.icmpNo X488.here hx rfl (hb hby at_148) rfl (tlt hc489).2.2.2 kq) ?_
      show OEnd p e below _ (T488.setTop (mkF m 151 #[.val (.int p0), .val (.int p1), .val (.int p2), .val (.int p3), .val (.int p4), .val (.ref b338), .val (.ref r_418), .val (.int (Int32.ofNat pp_419)), .val (.int (Int32.ofNat sq)), .unset, .unset] []))
      refine OEnd.of (fun tq kq => XS.aload X488.here hx rfl (hb hby at_151) rfl rfl kq) ?_
      show OEnd p e below _ (T488.setTop (mkF m 153 #[.val (.int p0), .val (.int p1), .val (.int p2), .val (.int p3), .val (.int p4), .val (.ref b338), .val (.ref r_418), .val (.int (Int32.ofNat pp_419)), .val (.int (Int32.ofNat sq)), .unset, .unset] [(.ref b338)]))
      refine OEnd.of (fun tq kq => XS.iconst X488.here hx rfl (hb hby at_153) kq) ?_
      show OEnd p e below _ (T488.setTop (mkF m 154 #[.val (.int p0), .val (.int p1), .val (.int p2), .val (.int p3), .val (.int p4), .val (.ref b338), .val (.ref r_418), .val (.int (Int32.ofNat pp_419)), .val (.int (Int32.ofNat sq)), .unset, .unset] [(.int (3 : Int32)), (.ref b338)]))
      have K490 : Keep h391 h413 [] := ((K403.trans Kq405 (allS (Or.inr (Nat.le_of_eq g396.symm)) all0)).trans Kq413 all0)
      have Vc491 := (V392.keep K490 nin0)
      obtain ⟨cl491, Ar491, q491, S491, N491, H491, G491⟩ := Vc491
      have hin491 : ¬ ((3 : Int32) < 0 ∨ cl491.slots.size ≤ ((3 : Int32)).toNatClampNeg) := inb_of S491 ⟨by decide, by decide⟩
      refine OEnd.of (X488.caload hx (j := (3 : Int32)) (v := (.int ch_377)) (by rw [e488]; exact Ar491.1) (State.isArrayOf_alike hZ488.alike Ar491.2.1) Ar491.2.2 hin491 (H491.at hin491 rfl) (g := (mkF m 154 #[.val (.int p0), .val (.int p1), .val (.int p2), .val (.int p3), .val (.int p4), .val (.ref b338), .val (.ref r_418), .val (.int (Int32.ofNat pp_419)), .val (.int (Int32.ofNat sq)), .unset, .unset] [(.int (3 : Int32)), (.ref b338)])) rfl rfl (hb hby at_154)) ?_
      show OEnd p e below _ (T488.setTop (mkF m 155 #[.val (.int p0), .val (.int p1), .val (.int p2), .val (.int p3), .val (.int p4), .val (.ref b338), .val (.ref r_418), .val (.int (Int32.ofNat pp_419)), .val (.int (Int32.ofNat sq)), .unset, .unset] [(.int ch_377)]))
      refine OEnd.of (fun tq kq => XS.bipush X488.here hx rfl (hb hby at_155) kq) ?_
      show OEnd p e below _ (T488.setTop (mkF m 157 #[.val (.int p0), .val (.int p1), .val (.int p2), .val (.int p3), .val (.int p4), .val (.ref b338), .val (.ref r_418), .val (.int (Int32.ofNat pp_419)), .val (.int (Int32.ofNat sq)), .unset, .unset] [(.int (32 : Int32)), (.int ch_377)]))
      by_cases hc492 : (32 : Int32) < ch_377
      · refine OEnd.of (fun tq kq => XS.icmpNo X488.here hx rfl (hb hby at_157) rfl (tlt hc492).2.2.2 kq) ?_
        show OEnd p e below _ (T488.setTop (mkF m 160 #[.val (.int p0), .val (.int p1), .val (.int p2), .val (.int p3), .val (.int p4), .val (.ref b338), .val (.ref r_418), .val (.int (Int32.ofNat pp_419)), .val (.int (Int32.ofNat sq)), .unset, .unset] []))
        refine OEnd.of (fun tq kq => XS.iconst X488.here hx rfl (hb hby at_160) kq) ?_
        show OEnd p e below _ (T488.setTop (mkF m 161 #[.val (.int p0), .val (.int p1), .val (.int p2), .val (.int p3), .val (.int p4), .val (.ref b338), .val (.ref r_418), .val (.int (Int32.ofNat pp_419)), .val (.int (Int32.ofNat sq)), .unset, .unset] [(.int (3 : Int32))]))
        refine OEnd.of (fun tq kq => XS.istore X488.here hx rfl (hb hby at_161) rfl (l' := #[.val (.int p0), .val (.int p1), .val (.int p2), .val (.int p3), .val (.int p4), .val (.ref b338), .val (.ref r_418), .val (.int (Int32.ofNat pp_419)), .val (.int (3 : Int32)), .unset, .unset]) rfl kq) ?_
        show OEnd p e below _ (T488.setTop (mkF m 163 #[.val (.int p0), .val (.int p1), .val (.int p2), .val (.int p3), .val (.int p4), .val (.ref b338), .val (.ref r_418), .val (.int (Int32.ofNat pp_419)), .val (.int (3 : Int32)), .unset, .unset] []))
        exact J483 _ T488 _ 3 X488 e488 N488 ⟨_, hS488, hk488⟩ hZ488 hown488 HR488 (own_Fst.yes (D := (fun j => (32 : Int32) < [ch_344, ch_355, ch_366, ch_377, ch_388].getD j 0)) (i := 3) ((own_ltN (a := 3) (by decide) (Nat.le_trans hpp (by decide))).mp hc489) hc492)
      · refine OEnd.of (fun tq kq => XS.icmpYes X488.here hx rfl (pc0 := 157) (pc' := 163) rfl (hb hby at_157) rfl (flt hc492).2.2.2 (by decide) (by decide) kq) ?_
        show OEnd p e below _ (T488.setTop (mkF m 163 #[.val (.int p0), .val (.int p1), .val (.int p2), .val (.int p3), .val (.int p4), .val (.ref b338), .val (.ref r_418), .val (.int (Int32.ofNat pp_419)), .val (.int (Int32.ofNat sq)), .unset, .unset] []))
        exact J483 _ T488 _ sq X488 e488 N488 ⟨_, hS488, hk488⟩ hZ488 hown488 HR488 (own_Fst.no hS (fun q => hc492 q.2))
    · refine OEnd.of (fun tq kq => XS.icmpYes X488.here hx rfl (pc0 := 148) (pc' := 163) rfl (hb hby at_148) rfl (flt hc489).2.2.2 (by decide) (by decide) kq) ?_
      show OEnd p e below _ (T488.setTop (mkF m 163 #[.val (.int p0), .val (.int p1), .val (.int p2), .val (.int p3), .val (.int p4), .val (.ref b338), .val (.ref r_418), .val (.int (Int32.ofNat pp_419)), .val (.int (Int32.ofNat sq)), .unset, .unset] []))
      exact J483 _ T488 _ sq X488 e488 N488 ⟨_, hS488, hk488⟩ hZ488 hown488 HR488 (own_Fst.no hS (fun q => hc489 ((own_ltN (a := 3) (by decide) (Nat.le_trans hpp (by decide))).mpr q.1)))
  have J493 : ∀ (vm493 : Vm) (T493 : State) (Lo493 : List Loc) (sq : Nat), Stand p l e room_1 (s.setVm vm493) m #[(.int p0), (.int p1), (.int p2), (.int p3), (.int p4)] below meth c T493 Lo493 15 86 → T493.heap = h413 → Fr Z.heap.size Lo493 → (∃ k0, s.Since vm493 k0 ∧ k0 ≤ h413.size) → Z.Warmed39 (s.setVm vm493).vm → (s.setVm vm493).vm.findClass "com/example/postil/postil/server/HeaderFieldsMediaTypePinLaw" = some m.cls → CHr Z EL s.vm h0 vm493 h413 → (own_Fst (fun j => (32 : Int32) < [ch_344, ch_355, ch_366, ch_377, ch_388].getD j 0) 5 pp_419 sq) → OEnd p e below (GW s Z EL (Qrm0 Z zc fm rt bl lg lv lk ci p0 p1 p2 p3 p4 h0) 40 4288) (T493.setTop (mkF m 127 #[.val (.int p0), .val (.int p1), .val (.int p2), .val (.int p3), .val (.int p4), .val (.ref b338), .val (.ref r_418), .val (.int (Int32.ofNat pp_419)), .val (.int (Int32.ofNat sq)), .unset, .unset] [])) := by
    rintro vm493 T493 Lo493 sq X493 e493 N493 ⟨kk493, hS493, hk493⟩ hZ493 hown493 HR493 hS
    show OEnd p e below _ (T493.setTop (mkF m 127 #[.val (.int p0), .val (.int p1), .val (.int p2), .val (.int p3), .val (.int p4), .val (.ref b338), .val (.ref r_418), .val (.int (Int32.ofNat pp_419)), .val (.int (Int32.ofNat sq)), .unset, .unset] []))
    refine OEnd.of (fun tq kq => XS.iload X493.here hx rfl (hb hby at_127) rfl kq) ?_
    show OEnd p e below _ (T493.setTop (mkF m 129 #[.val (.int p0), .val (.int p1), .val (.int p2), .val (.int p3), .val (.int p4), .val (.ref b338), .val (.ref r_418), .val (.int (Int32.ofNat pp_419)), .val (.int (Int32.ofNat sq)), .unset, .unset] [(.int (Int32.ofNat pp_419))]))
    refine OEnd.of (fun tq kq => XS.iconst X493.here hx rfl (hb hby at_129) kq) ?_
    show OEnd p e below _ (T493.setTop (mkF m 130 #[.val (.int p0), .val (.int p1), .val (.int p2), .val (.int p3), .val (.int p4), .val (.ref b338), .val (.ref r_418), .val (.int (Int32.ofNat pp_419)), .val (.int (Int32.ofNat sq)), .unset, .unset] [(.int (4 : Int32)), (.int (Int32.ofNat pp_419))]))
    by_cases hc494 : (4 : Int32) < (Int32.ofNat pp_419)
    · refine OEnd.of (fun tq kq => XS.icmpNo X493.here hx rfl (hb hby at_130) rfl (tlt hc494).2.2.2 kq) ?_
      show OEnd p e below _ (T493.setTop (mkF m 133 #[.val (.int p0), .val (.int p1), .val (.int p2), .val (.int p3), .val (.int p4), .val (.ref b338), .val (.ref r_418), .val (.int (Int32.ofNat pp_419)), .val (.int (Int32.ofNat sq)), .unset, .unset] []))
      refine OEnd.of (fun tq kq => XS.aload X493.here hx rfl (hb hby at_133) rfl rfl kq) ?_
      show OEnd p e below _ (T493.setTop (mkF m 135 #[.val (.int p0), .val (.int p1), .val (.int p2), .val (.int p3), .val (.int p4), .val (.ref b338), .val (.ref r_418), .val (.int (Int32.ofNat pp_419)), .val (.int (Int32.ofNat sq)), .unset, .unset] [(.ref b338)]))
      refine OEnd.of (fun tq kq => XS.iconst X493.here hx rfl (hb hby at_135) kq) ?_
      show OEnd p e below _ (T493.setTop (mkF m 136 #[.val (.int p0), .val (.int p1), .val (.int p2), .val (.int p3), .val (.int p4), .val (.ref b338), .val (.ref r_418), .val (.int (Int32.ofNat pp_419)), .val (.int (Int32.ofNat sq)), .unset, .unset] [(.int (4 : Int32)), (.ref b338)]))
      have K495 : Keep h391 h413 [] := ((K403.trans Kq405 (allS (Or.inr (Nat.le_of_eq g396.symm)) all0)).trans Kq413 all0)
      have Vc496 := (V392.keep K495 nin0)
      obtain ⟨cl496, Ar496, q496, S496, N496, H496, G496⟩ := Vc496
      have hin496 : ¬ ((4 : Int32) < 0 ∨ cl496.slots.size ≤ ((4 : Int32)).toNatClampNeg) := inb_of S496 ⟨by decide, by decide⟩
      refine OEnd.of (X493.caload hx (j := (4 : Int32)) (v := (.int ch_388)) (by rw [e493]; exact Ar496.1) (State.isArrayOf_alike hZ493.alike Ar496.2.1) Ar496.2.2 hin496 (H496.at hin496 rfl) (g := (mkF m 136 #[.val (.int p0), .val (.int p1), .val (.int p2), .val (.int p3), .val (.int p4), .val (.ref b338), .val (.ref r_418), .val (.int (Int32.ofNat pp_419)), .val (.int (Int32.ofNat sq)), .unset, .unset] [(.int (4 : Int32)), (.ref b338)])) rfl rfl (hb hby at_136)) ?_
      show OEnd p e below _ (T493.setTop (mkF m 137 #[.val (.int p0), .val (.int p1), .val (.int p2), .val (.int p3), .val (.int p4), .val (.ref b338), .val (.ref r_418), .val (.int (Int32.ofNat pp_419)), .val (.int (Int32.ofNat sq)), .unset, .unset] [(.int ch_388)]))
      refine OEnd.of (fun tq kq => XS.bipush X493.here hx rfl (hb hby at_137) kq) ?_
      show OEnd p e below _ (T493.setTop (mkF m 139 #[.val (.int p0), .val (.int p1), .val (.int p2), .val (.int p3), .val (.int p4), .val (.ref b338), .val (.ref r_418), .val (.int (Int32.ofNat pp_419)), .val (.int (Int32.ofNat sq)), .unset, .unset] [(.int (32 : Int32)), (.int ch_388)]))
      by_cases hc497 : (32 : Int32) < ch_388
      · refine OEnd.of (fun tq kq => XS.icmpNo X493.here hx rfl (hb hby at_139) rfl (tlt hc497).2.2.2 kq) ?_
        show OEnd p e below _ (T493.setTop (mkF m 142 #[.val (.int p0), .val (.int p1), .val (.int p2), .val (.int p3), .val (.int p4), .val (.ref b338), .val (.ref r_418), .val (.int (Int32.ofNat pp_419)), .val (.int (Int32.ofNat sq)), .unset, .unset] []))
        refine OEnd.of (fun tq kq => XS.iconst X493.here hx rfl (hb hby at_142) kq) ?_
        show OEnd p e below _ (T493.setTop (mkF m 143 #[.val (.int p0), .val (.int p1), .val (.int p2), .val (.int p3), .val (.int p4), .val (.ref b338), .val (.ref r_418), .val (.int (Int32.ofNat pp_419)), .val (.int (Int32.ofNat sq)), .unset, .unset] [(.int (4 : Int32))]))
        refine OEnd.of (fun tq kq => XS.istore X493.here hx rfl (hb hby at_143) rfl (l' := #[.val (.int p0), .val (.int p1), .val (.int p2), .val (.int p3), .val (.int p4), .val (.ref b338), .val (.ref r_418), .val (.int (Int32.ofNat pp_419)), .val (.int (4 : Int32)), .unset, .unset]) rfl kq) ?_
        show OEnd p e below _ (T493.setTop (mkF m 145 #[.val (.int p0), .val (.int p1), .val (.int p2), .val (.int p3), .val (.int p4), .val (.ref b338), .val (.ref r_418), .val (.int (Int32.ofNat pp_419)), .val (.int (4 : Int32)), .unset, .unset] []))
        exact J488 _ T493 _ 4 X493 e493 N493 ⟨_, hS493, hk493⟩ hZ493 hown493 HR493 (own_Fst.yes (D := (fun j => (32 : Int32) < [ch_344, ch_355, ch_366, ch_377, ch_388].getD j 0)) (i := 4) ((own_ltN (a := 4) (by decide) (Nat.le_trans hpp (by decide))).mp hc494) hc497)
      · refine OEnd.of (fun tq kq => XS.icmpYes X493.here hx rfl (pc0 := 139) (pc' := 145) rfl (hb hby at_139) rfl (flt hc497).2.2.2 (by decide) (by decide) kq) ?_
        show OEnd p e below _ (T493.setTop (mkF m 145 #[.val (.int p0), .val (.int p1), .val (.int p2), .val (.int p3), .val (.int p4), .val (.ref b338), .val (.ref r_418), .val (.int (Int32.ofNat pp_419)), .val (.int (Int32.ofNat sq)), .unset, .unset] []))
        exact J488 _ T493 _ sq X493 e493 N493 ⟨_, hS493, hk493⟩ hZ493 hown493 HR493 (own_Fst.no hS (fun q => hc497 q.2))
    · refine OEnd.of (fun tq kq => XS.icmpYes X493.here hx rfl (pc0 := 130) (pc' := 145) rfl (hb hby at_130) rfl (flt hc494).2.2.2 (by decide) (by decide) kq) ?_
      show OEnd p e below _ (T493.setTop (mkF m 145 #[.val (.int p0), .val (.int p1), .val (.int p2), .val (.int p3), .val (.int p4), .val (.ref b338), .val (.ref r_418), .val (.int (Int32.ofNat pp_419)), .val (.int (Int32.ofNat sq)), .unset, .unset] []))
      exact J488 _ T493 _ sq X493 e493 N493 ⟨_, hS493, hk493⟩ hZ493 hown493 HR493 (own_Fst.no hS (fun q => hc494 ((own_ltN (a := 4) (by decide) (Nat.le_trans hpp (by decide))).mpr q.1)))
  have J498 : ∀ (vm498 : Vm) (T498 : State) (Lo498 : List Loc) (pq : Nat), Stand p l e room_1 (s.setVm vm498) m #[(.int p0), (.int p1), (.int p2), (.int p3), (.int p4)] below meth c T498 Lo498 15 86 → T498.heap = h413 → Fr Z.heap.size Lo498 → (∃ k0, s.Since vm498 k0 ∧ k0 ≤ h413.size) → Z.Warmed39 (s.setVm vm498).vm → (s.setVm vm498).vm.findClass "com/example/postil/postil/server/HeaderFieldsMediaTypePinLaw" = some m.cls → CHr Z EL s.vm h0 vm498 h413 → (own_Fst (fun j => [ch_344, ch_355, ch_366, ch_377, ch_388].getD j 0 = (59 : Int32)) 0 5 pq) → OEnd p e below (GW s Z EL (Qrm0 Z zc fm rt bl lg lv lk ci p0 p1 p2 p3 p4 h0) 40 4288) (T498.setTop (mkF m 123 #[.val (.int p0), .val (.int p1), .val (.int p2), .val (.int p3), .val (.int p4), .val (.ref b338), .val (.ref r_418), .val (.int (Int32.ofNat pq)), .unset, .unset, .unset] [])) := by
    rintro vm498 T498 Lo498 pq X498 e498 N498 ⟨kk498, hS498, hk498⟩ hZ498 hown498 HR498 hq
    show OEnd p e below _ (T498.setTop (mkF m 123 #[.val (.int p0), .val (.int p1), .val (.int p2), .val (.int p3), .val (.int p4), .val (.ref b338), .val (.ref r_418), .val (.int (Int32.ofNat pq)), .unset, .unset, .unset] []))
    rw [show (Int32.ofNat pq) = (Int32.ofNat pp_419) from congrArg Int32.ofNat (own_Fst.uniq hq hF)]
    show OEnd p e below _ (T498.setTop (mkF m 123 #[.val (.int p0), .val (.int p1), .val (.int p2), .val (.int p3), .val (.int p4), .val (.ref b338), .val (.ref r_418), .val (.int (Int32.ofNat pp_419)), .unset, .unset, .unset] []))
    refine OEnd.of (fun tq kq => XS.iload X498.here hx rfl (hb hby at_123) rfl kq) ?_
    show OEnd p e below _ (T498.setTop (mkF m 125 #[.val (.int p0), .val (.int p1), .val (.int p2), .val (.int p3), .val (.int p4), .val (.ref b338), .val (.ref r_418), .val (.int (Int32.ofNat pp_419)), .unset, .unset, .unset] [(.int (Int32.ofNat pp_419))]))
    refine OEnd.of (fun tq kq => XS.istore X498.here hx rfl (hb hby at_125) rfl (l' := #[.val (.int p0), .val (.int p1), .val (.int p2), .val (.int p3), .val (.int p4), .val (.ref b338), .val (.ref r_418), .val (.int (Int32.ofNat pp_419)), .val (.int (Int32.ofNat pp_419)), .unset, .unset]) rfl kq) ?_
    show OEnd p e below _ (T498.setTop (mkF m 127 #[.val (.int p0), .val (.int p1), .val (.int p2), .val (.int p3), .val (.int p4), .val (.ref b338), .val (.ref r_418), .val (.int (Int32.ofNat pp_419)), .val (.int (Int32.ofNat pp_419)), .unset, .unset] []))
    exact J493 _ T498 _ pp_419 X498 e498 N498 ⟨_, hS498, hk498⟩ hZ498 hown498 HR498 (own_Fst.base (by omega))
  have J499 : ∀ (vm499 : Vm) (T499 : State) (Lo499 : List Loc) (pq : Nat), Stand p l e room_1 (s.setVm vm499) m #[(.int p0), (.int p1), (.int p2), (.int p3), (.int p4)] below meth c T499 Lo499 15 86 → T499.heap = h413 → Fr Z.heap.size Lo499 → (∃ k0, s.Since vm499 k0 ∧ k0 ≤ h413.size) → Z.Warmed39 (s.setVm vm499).vm → (s.setVm vm499).vm.findClass "com/example/postil/postil/server/HeaderFieldsMediaTypePinLaw" = some m.cls → CHr Z EL s.vm h0 vm499 h413 → (own_Fst (fun j => [ch_344, ch_355, ch_366, ch_377, ch_388].getD j 0 = (59 : Int32)) 1 5 pq) → OEnd p e below (GW s Z EL (Qrm0 Z zc fm rt bl lg lv lk ci p0 p1 p2 p3 p4 h0) 40 4288) (T499.setTop (mkF m 111 #[.val (.int p0), .val (.int p1), .val (.int p2), .val (.int p3), .val (.int p4), .val (.ref b338), .val (.ref r_418), .val (.int (Int32.ofNat pq)), .unset, .unset, .unset] [])) := by
    rintro vm499 T499 Lo499 pq X499 e499 N499 ⟨kk499, hS499, hk499⟩ hZ499 hown499 HR499 hq
    show OEnd p e below _ (T499.setTop (mkF m 111 #[.val (.int p0), .val (.int p1), .val (.int p2), .val (.int p3), .val (.int p4), .val (.ref b338), .val (.ref r_418), .val (.int (Int32.ofNat pq)), .unset, .unset, .unset] []))
    refine OEnd.of (fun tq kq => XS.aload X499.here hx rfl (hb hby at_111) rfl rfl kq) ?_
    show OEnd p e below _ (T499.setTop (mkF m 113 #[.val (.int p0), .val (.int p1), .val (.int p2), .val (.int p3), .val (.int p4), .val (.ref b338), .val (.ref r_418), .val (.int (Int32.ofNat pq)), .unset, .unset, .unset] [(.ref b338)]))
    refine OEnd.of (fun tq kq => XS.iconst X499.here hx rfl (hb hby at_113) kq) ?_
    show OEnd p e below _ (T499.setTop (mkF m 114 #[.val (.int p0), .val (.int p1), .val (.int p2), .val (.int p3), .val (.int p4), .val (.ref b338), .val (.ref r_418), .val (.int (Int32.ofNat pq)), .unset, .unset, .unset] [(.int (0 : Int32)), (.ref b338)]))
    have K500 : Keep h391 h413 [] := ((K403.trans Kq405 (allS (Or.inr (Nat.le_of_eq g396.symm)) all0)).trans Kq413 all0)
    have Vc501 := (V392.keep K500 nin0)
    obtain ⟨cl501, Ar501, q501, S501, N501, H501, G501⟩ := Vc501
    have hin501 : ¬ ((0 : Int32) < 0 ∨ cl501.slots.size ≤ ((0 : Int32)).toNatClampNeg) := inb_of S501 ⟨by decide, by decide⟩
    refine OEnd.of (X499.caload hx (j := (0 : Int32)) (v := (.int ch_344)) (by rw [e499]; exact Ar501.1) (State.isArrayOf_alike hZ499.alike Ar501.2.1) Ar501.2.2 hin501 (H501.at hin501 rfl) (g := (mkF m 114 #[.val (.int p0), .val (.int p1), .val (.int p2), .val (.int p3), .val (.int p4), .val (.ref b338), .val (.ref r_418), .val (.int (Int32.ofNat pq)), .unset, .unset, .unset] [(.int (0 : Int32)), (.ref b338)])) rfl rfl (hb hby at_114)) ?_
    show OEnd p e below _ (T499.setTop (mkF m 115 #[.val (.int p0), .val (.int p1), .val (.int p2), .val (.int p3), .val (.int p4), .val (.ref b338), .val (.ref r_418), .val (.int (Int32.ofNat pq)), .unset, .unset, .unset] [(.int ch_344)]))
    refine OEnd.of (fun tq kq => XS.bipush X499.here hx rfl (hb hby at_115) kq) ?_
    show OEnd p e below _ (T499.setTop (mkF m 117 #[.val (.int p0), .val (.int p1), .val (.int p2), .val (.int p3), .val (.int p4), .val (.ref b338), .val (.ref r_418), .val (.int (Int32.ofNat pq)), .unset, .unset, .unset] [(.int (59 : Int32)), (.int ch_344)]))
    by_cases hc502 : ch_344 = (59 : Int32)
    · refine OEnd.of (fun tq kq => XS.icmpNo X499.here hx rfl (hb hby at_117) rfl (teq hc502).2 kq) ?_
      show OEnd p e below _ (T499.setTop (mkF m 120 #[.val (.int p0), .val (.int p1), .val (.int p2), .val (.int p3), .val (.int p4), .val (.ref b338), .val (.ref r_418), .val (.int (Int32.ofNat pq)), .unset, .unset, .unset] []))
      refine OEnd.of (fun tq kq => XS.iconst X499.here hx rfl (hb hby at_120) kq) ?_
      show OEnd p e below _ (T499.setTop (mkF m 121 #[.val (.int p0), .val (.int p1), .val (.int p2), .val (.int p3), .val (.int p4), .val (.ref b338), .val (.ref r_418), .val (.int (Int32.ofNat pq)), .unset, .unset, .unset] [(.int (0 : Int32))]))
      refine OEnd.of (fun tq kq => XS.istore X499.here hx rfl (hb hby at_121) rfl (l' := #[.val (.int p0), .val (.int p1), .val (.int p2), .val (.int p3), .val (.int p4), .val (.ref b338), .val (.ref r_418), .val (.int (0 : Int32)), .unset, .unset, .unset]) rfl kq) ?_
      show OEnd p e below _ (T499.setTop (mkF m 123 #[.val (.int p0), .val (.int p1), .val (.int p2), .val (.int p3), .val (.int p4), .val (.ref b338), .val (.ref r_418), .val (.int (0 : Int32)), .unset, .unset, .unset] []))
      exact J498 _ T499 _ 0 X499 e499 N499 ⟨_, hS499, hk499⟩ hZ499 hown499 HR499 (own_Fst.yes (D := (fun j => [ch_344, ch_355, ch_366, ch_377, ch_388].getD j 0 = (59 : Int32))) (i := 0) (by decide) hc502)
    · refine OEnd.of (fun tq kq => XS.icmpYes X499.here hx rfl (pc0 := 117) (pc' := 123) rfl (hb hby at_117) rfl (feq hc502).2 (by decide) (by decide) kq) ?_
      show OEnd p e below _ (T499.setTop (mkF m 123 #[.val (.int p0), .val (.int p1), .val (.int p2), .val (.int p3), .val (.int p4), .val (.ref b338), .val (.ref r_418), .val (.int (Int32.ofNat pq)), .unset, .unset, .unset] []))
      exact J498 _ T499 _ pq X499 e499 N499 ⟨_, hS499, hk499⟩ hZ499 hown499 HR499 (own_Fst.no hq (fun q => hc502 q.2))
  have J503 : ∀ (vm503 : Vm) (T503 : State) (Lo503 : List Loc) (pq : Nat), Stand p l e room_1 (s.setVm vm503) m #[(.int p0), (.int p1), (.int p2), (.int p3), (.int p4)] below meth c T503 Lo503 15 86 → T503.heap = h413 → Fr Z.heap.size Lo503 → (∃ k0, s.Since vm503 k0 ∧ k0 ≤ h413.size) → Z.Warmed39 (s.setVm vm503).vm → (s.setVm vm503).vm.findClass "com/example/postil/postil/server/HeaderFieldsMediaTypePinLaw" = some m.cls → CHr Z EL s.vm h0 vm503 h413 → (own_Fst (fun j => [ch_344, ch_355, ch_366, ch_377, ch_388].getD j 0 = (59 : Int32)) 2 5 pq) → OEnd p e below (GW s Z EL (Qrm0 Z zc fm rt bl lg lv lk ci p0 p1 p2 p3 p4 h0) 40 4288) (T503.setTop (mkF m 99 #[.val (.int p0), .val (.int p1), .val (.int p2), .val (.int p3), .val (.int p4), .val (.ref b338), .val (.ref r_418), .val (.int (Int32.ofNat pq)), .unset, .unset, .unset] [])) := by
    rintro vm503 T503 Lo503 pq X503 e503 N503 ⟨kk503, hS503, hk503⟩ hZ503 hown503 HR503 hq
    show OEnd p e below _ (T503.setTop (mkF m 99 #[.val (.int p0), .val (.int p1), .val (.int p2), .val (.int p3), .val (.int p4), .val (.ref b338), .val (.ref r_418), .val (.int (Int32.ofNat pq)), .unset, .unset, .unset] []))
    refine OEnd.of (fun tq kq => XS.aload X503.here hx rfl (hb hby at_99) rfl rfl kq) ?_
    show OEnd p e below _ (T503.setTop (mkF m 101 #[.val (.int p0), .val (.int p1), .val (.int p2), .val (.int p3), .val (.int p4), .val (.ref b338), .val (.ref r_418), .val (.int (Int32.ofNat pq)), .unset, .unset, .unset] [(.ref b338)]))
    refine OEnd.of (fun tq kq => XS.iconst X503.here hx rfl (hb hby at_101) kq) ?_
    show OEnd p e below _ (T503.setTop (mkF m 102 #[.val (.int p0), .val (.int p1), .val (.int p2), .val (.int p3), .val (.int p4), .val (.ref b338), .val (.ref r_418), .val (.int (Int32.ofNat pq)), .unset, .unset, .unset] [(.int (1 : Int32)), (.ref b338)]))
    have K504 : Keep h391 h413 [] := ((K403.trans Kq405 (allS (Or.inr (Nat.le_of_eq g396.symm)) all0)).trans Kq413 all0)
    have Vc505 := (V392.keep K504 nin0)
    obtain ⟨cl505, Ar505, q505, S505, N505, H505, G505⟩ := Vc505
    have hin505 : ¬ ((1 : Int32) < 0 ∨ cl505.slots.size ≤ ((1 : Int32)).toNatClampNeg) := inb_of S505 ⟨by decide, by decide⟩
    refine OEnd.of (X503.caload hx (j := (1 : Int32)) (v := (.int ch_355)) (by rw [e503]; exact Ar505.1) (State.isArrayOf_alike hZ503.alike Ar505.2.1) Ar505.2.2 hin505 (H505.at hin505 rfl) (g := (mkF m 102 #[.val (.int p0), .val (.int p1), .val (.int p2), .val (.int p3), .val (.int p4), .val (.ref b338), .val (.ref r_418), .val (.int (Int32.ofNat pq)), .unset, .unset, .unset] [(.int (1 : Int32)), (.ref b338)])) rfl rfl (hb hby at_102)) ?_
    show OEnd p e below _ (T503.setTop (mkF m 103 #[.val (.int p0), .val (.int p1), .val (.int p2), .val (.int p3), .val (.int p4), .val (.ref b338), .val (.ref r_418), .val (.int (Int32.ofNat pq)), .unset, .unset, .unset] [(.int ch_355)]))
    refine OEnd.of (fun tq kq => XS.bipush X503.here hx rfl (hb hby at_103) kq) ?_
    show OEnd p e below _ (T503.setTop (mkF m 105 #[.val (.int p0), .val (.int p1), .val (.int p2), .val (.int p3), .val (.int p4), .val (.ref b338), .val (.ref r_418), .val (.int (Int32.ofNat pq)), .unset, .unset, .unset] [(.int (59 : Int32)), (.int ch_355)]))
    by_cases hc506 : ch_355 = (59 : Int32)
    · refine OEnd.of (fun tq kq => XS.icmpNo X503.here hx rfl (hb hby at_105) rfl (teq hc506).2 kq) ?_
      show OEnd p e below _ (T503.setTop (mkF m 108 #[.val (.int p0), .val (.int p1), .val (.int p2), .val (.int p3), .val (.int p4), .val (.ref b338), .val (.ref r_418), .val (.int (Int32.ofNat pq)), .unset, .unset, .unset] []))
      refine OEnd.of (fun tq kq => XS.iconst X503.here hx rfl (hb hby at_108) kq) ?_
      show OEnd p e below _ (T503.setTop (mkF m 109 #[.val (.int p0), .val (.int p1), .val (.int p2), .val (.int p3), .val (.int p4), .val (.ref b338), .val (.ref r_418), .val (.int (Int32.ofNat pq)), .unset, .unset, .unset] [(.int (1 : Int32))]))
      refine OEnd.of (fun tq kq => XS.istore X503.here hx rfl (hb hby at_109) rfl (l' := #[.val (.int p0), .val (.int p1), .val (.int p2), .val (.int p3), .val (.int p4), .val (.ref b338), .val (.ref r_418), .val (.int (1 : Int32)), .unset, .unset, .unset]) rfl kq) ?_
      show OEnd p e below _ (T503.setTop (mkF m 111 #[.val (.int p0), .val (.int p1), .val (.int p2), .val (.int p3), .val (.int p4), .val (.ref b338), .val (.ref r_418), .val (.int (1 : Int32)), .unset, .unset, .unset] []))
      exact J499 _ T503 _ 1 X503 e503 N503 ⟨_, hS503, hk503⟩ hZ503 hown503 HR503 (own_Fst.yes (D := (fun j => [ch_344, ch_355, ch_366, ch_377, ch_388].getD j 0 = (59 : Int32))) (i := 1) (by decide) hc506)
    · refine OEnd.of (fun tq kq => XS.icmpYes X503.here hx rfl (pc0 := 105) (pc' := 111) rfl (hb hby at_105) rfl (feq hc506).2 (by decide) (by decide) kq) ?_
      show OEnd p e below _ (T503.setTop (mkF m 111 #[.val (.int p0), .val (.int p1), .val (.int p2), .val (.int p3), .val (.int p4), .val (.ref b338), .val (.ref r_418), .val (.int (Int32.ofNat pq)), .unset, .unset, .unset] []))
      exact J499 _ T503 _ pq X503 e503 N503 ⟨_, hS503, hk503⟩ hZ503 hown503 HR503 (own_Fst.no hq (fun q => hc506 q.2))
  have J507 : ∀ (vm507 : Vm) (T507 : State) (Lo507 : List Loc) (pq : Nat), Stand p l e room_1 (s.setVm vm507) m #[(.int p0), (.int p1), (.int p2), (.int p3), (.int p4)] below meth c T507 Lo507 15 86 → T507.heap = h413 → Fr Z.heap.size Lo507 → (∃ k0, s.Since vm507 k0 ∧ k0 ≤ h413.size) → Z.Warmed39 (s.setVm vm507).vm → (s.setVm vm507).vm.findClass "com/example/postil/postil/server/HeaderFieldsMediaTypePinLaw" = some m.cls → CHr Z EL s.vm h0 vm507 h413 → (own_Fst (fun j => [ch_344, ch_355, ch_366, ch_377, ch_388].getD j 0 = (59 : Int32)) 3 5 pq) → OEnd p e below (GW s Z EL (Qrm0 Z zc fm rt bl lg lv lk ci p0 p1 p2 p3 p4 h0) 40 4288) (T507.setTop (mkF m 87 #[.val (.int p0), .val (.int p1), .val (.int p2), .val (.int p3), .val (.int p4), .val (.ref b338), .val (.ref r_418), .val (.int (Int32.ofNat pq)), .unset, .unset, .unset] [])) := by
    rintro vm507 T507 Lo507 pq X507 e507 N507 ⟨kk507, hS507, hk507⟩ hZ507 hown507 HR507 hq
    show OEnd p e below _ (T507.setTop (mkF m 87 #[.val (.int p0), .val (.int p1), .val (.int p2), .val (.int p3), .val (.int p4), .val (.ref b338), .val (.ref r_418), .val (.int (Int32.ofNat pq)), .unset, .unset, .unset] []))
    refine OEnd.of (fun tq kq => XS.aload X507.here hx rfl (hb hby at_87) rfl rfl kq) ?_
    show OEnd p e below _ (T507.setTop (mkF m 89 #[.val (.int p0), .val (.int p1), .val (.int p2), .val (.int p3), .val (.int p4), .val (.ref b338), .val (.ref r_418), .val (.int (Int32.ofNat pq)), .unset, .unset, .unset] [(.ref b338)]))
    refine OEnd.of (fun tq kq => XS.iconst X507.here hx rfl (hb hby at_89) kq) ?_
    show OEnd p e below _ (T507.setTop (mkF m 90 #[.val (.int p0), .val (.int p1), .val (.int p2), .val (.int p3), .val (.int p4), .val (.ref b338), .val (.ref r_418), .val (.int (Int32.ofNat pq)), .unset, .unset, .unset] [(.int (2 : Int32)), (.ref b338)]))
    have K508 : Keep h391 h413 [] := ((K403.trans Kq405 (allS (Or.inr (Nat.le_of_eq g396.symm)) all0)).trans Kq413 all0)
    have Vc509 := (V392.keep K508 nin0)
    obtain ⟨cl509, Ar509, q509, S509, N509, H509, G509⟩ := Vc509
    have hin509 : ¬ ((2 : Int32) < 0 ∨ cl509.slots.size ≤ ((2 : Int32)).toNatClampNeg) := inb_of S509 ⟨by decide, by decide⟩
    refine OEnd.of (X507.caload hx (j := (2 : Int32)) (v := (.int ch_366)) (by rw [e507]; exact Ar509.1) (State.isArrayOf_alike hZ507.alike Ar509.2.1) Ar509.2.2 hin509 (H509.at hin509 rfl) (g := (mkF m 90 #[.val (.int p0), .val (.int p1), .val (.int p2), .val (.int p3), .val (.int p4), .val (.ref b338), .val (.ref r_418), .val (.int (Int32.ofNat pq)), .unset, .unset, .unset] [(.int (2 : Int32)), (.ref b338)])) rfl rfl (hb hby at_90)) ?_
    show OEnd p e below _ (T507.setTop (mkF m 91 #[.val (.int p0), .val (.int p1), .val (.int p2), .val (.int p3), .val (.int p4), .val (.ref b338), .val (.ref r_418), .val (.int (Int32.ofNat pq)), .unset, .unset, .unset] [(.int ch_366)]))
    refine OEnd.of (fun tq kq => XS.bipush X507.here hx rfl (hb hby at_91) kq) ?_
    show OEnd p e below _ (T507.setTop (mkF m 93 #[.val (.int p0), .val (.int p1), .val (.int p2), .val (.int p3), .val (.int p4), .val (.ref b338), .val (.ref r_418), .val (.int (Int32.ofNat pq)), .unset, .unset, .unset] [(.int (59 : Int32)), (.int ch_366)]))
    by_cases hc510 : ch_366 = (59 : Int32)
    · refine OEnd.of (fun tq kq => XS.icmpNo X507.here hx rfl (hb hby at_93) rfl (teq hc510).2 kq) ?_
      show OEnd p e below _ (T507.setTop (mkF m 96 #[.val (.int p0), .val (.int p1), .val (.int p2), .val (.int p3), .val (.int p4), .val (.ref b338), .val (.ref r_418), .val (.int (Int32.ofNat pq)), .unset, .unset, .unset] []))
      refine OEnd.of (fun tq kq => XS.iconst X507.here hx rfl (hb hby at_96) kq) ?_
      show OEnd p e below _ (T507.setTop (mkF m 97 #[.val (.int p0), .val (.int p1), .val (.int p2), .val (.int p3), .val (.int p4), .val (.ref b338), .val (.ref r_418), .val (.int (Int32.ofNat pq)), .unset, .unset, .unset] [(.int (2 : Int32))]))
      refine OEnd.of (fun tq kq => XS.istore X507.here hx rfl (hb hby at_97) rfl (l' := #[.val (.int p0), .val (.int p1), .val (.int p2), .val (.int p3), .val (.int p4), .val (.ref b338), .val (.ref r_418), .val (.int (2 : Int32)), .unset, .unset, .unset]) rfl kq) ?_
      show OEnd p e below _ (T507.setTop (mkF m 99 #[.val (.int p0), .val (.int p1), .val (.int p2), .val (.int p3), .val (.int p4), .val (.ref b338), .val (.ref r_418), .val (.int (2 : Int32)), .unset, .unset, .unset] []))
      exact J503 _ T507 _ 2 X507 e507 N507 ⟨_, hS507, hk507⟩ hZ507 hown507 HR507 (own_Fst.yes (D := (fun j => [ch_344, ch_355, ch_366, ch_377, ch_388].getD j 0 = (59 : Int32))) (i := 2) (by decide) hc510)
    · refine OEnd.of (fun tq kq => XS.icmpYes X507.here hx rfl (pc0 := 93) (pc' := 99) rfl (hb hby at_93) rfl (feq hc510).2 (by decide) (by decide) kq) ?_
      show OEnd p e below _ (T507.setTop (mkF m 99 #[.val (.int p0), .val (.int p1), .val (.int p2), .val (.int p3), .val (.int p4), .val (.ref b338), .val (.ref r_418), .val (.int (Int32.ofNat pq)), .unset, .unset, .unset] []))
      exact J503 _ T507 _ pq X507 e507 N507 ⟨_, hS507, hk507⟩ hZ507 hown507 HR507 (own_Fst.no hq (fun q => hc510 q.2))
  have J511 : ∀ (vm511 : Vm) (T511 : State) (Lo511 : List Loc) (pq : Nat), Stand p l e room_1 (s.setVm vm511) m #[(.int p0), (.int p1), (.int p2), (.int p3), (.int p4)] below meth c T511 Lo511 15 86 → T511.heap = h413 → Fr Z.heap.size Lo511 → (∃ k0, s.Since vm511 k0 ∧ k0 ≤ h413.size) → Z.Warmed39 (s.setVm vm511).vm → (s.setVm vm511).vm.findClass "com/example/postil/postil/server/HeaderFieldsMediaTypePinLaw" = some m.cls → CHr Z EL s.vm h0 vm511 h413 → (own_Fst (fun j => [ch_344, ch_355, ch_366, ch_377, ch_388].getD j 0 = (59 : Int32)) 4 5 pq) → OEnd p e below (GW s Z EL (Qrm0 Z zc fm rt bl lg lv lk ci p0 p1 p2 p3 p4 h0) 40 4288) (T511.setTop (mkF m 75 #[.val (.int p0), .val (.int p1), .val (.int p2), .val (.int p3), .val (.int p4), .val (.ref b338), .val (.ref r_418), .val (.int (Int32.ofNat pq)), .unset, .unset, .unset] [])) := by
    rintro vm511 T511 Lo511 pq X511 e511 N511 ⟨kk511, hS511, hk511⟩ hZ511 hown511 HR511 hq
    show OEnd p e below _ (T511.setTop (mkF m 75 #[.val (.int p0), .val (.int p1), .val (.int p2), .val (.int p3), .val (.int p4), .val (.ref b338), .val (.ref r_418), .val (.int (Int32.ofNat pq)), .unset, .unset, .unset] []))
    refine OEnd.of (fun tq kq => XS.aload X511.here hx rfl (hb hby at_75) rfl rfl kq) ?_
    show OEnd p e below _ (T511.setTop (mkF m 77 #[.val (.int p0), .val (.int p1), .val (.int p2), .val (.int p3), .val (.int p4), .val (.ref b338), .val (.ref r_418), .val (.int (Int32.ofNat pq)), .unset, .unset, .unset] [(.ref b338)]))
    refine OEnd.of (fun tq kq => XS.iconst X511.here hx rfl (hb hby at_77) kq) ?_
    show OEnd p e below _ (T511.setTop (mkF m 78 #[.val (.int p0), .val (.int p1), .val (.int p2), .val (.int p3), .val (.int p4), .val (.ref b338), .val (.ref r_418), .val (.int (Int32.ofNat pq)), .unset, .unset, .unset] [(.int (3 : Int32)), (.ref b338)]))
    have K512 : Keep h391 h413 [] := ((K403.trans Kq405 (allS (Or.inr (Nat.le_of_eq g396.symm)) all0)).trans Kq413 all0)
    have Vc513 := (V392.keep K512 nin0)
    obtain ⟨cl513, Ar513, q513, S513, N513, H513, G513⟩ := Vc513
    have hin513 : ¬ ((3 : Int32) < 0 ∨ cl513.slots.size ≤ ((3 : Int32)).toNatClampNeg) := inb_of S513 ⟨by decide, by decide⟩
    refine OEnd.of (X511.caload hx (j := (3 : Int32)) (v := (.int ch_377)) (by rw [e511]; exact Ar513.1) (State.isArrayOf_alike hZ511.alike Ar513.2.1) Ar513.2.2 hin513 (H513.at hin513 rfl) (g := (mkF m 78 #[.val (.int p0), .val (.int p1), .val (.int p2), .val (.int p3), .val (.int p4), .val (.ref b338), .val (.ref r_418), .val (.int (Int32.ofNat pq)), .unset, .unset, .unset] [(.int (3 : Int32)), (.ref b338)])) rfl rfl (hb hby at_78)) ?_
    show OEnd p e below _ (T511.setTop (mkF m 79 #[.val (.int p0), .val (.int p1), .val (.int p2), .val (.int p3), .val (.int p4), .val (.ref b338), .val (.ref r_418), .val (.int (Int32.ofNat pq)), .unset, .unset, .unset] [(.int ch_377)]))
    refine OEnd.of (fun tq kq => XS.bipush X511.here hx rfl (hb hby at_79) kq) ?_
    show OEnd p e below _ (T511.setTop (mkF m 81 #[.val (.int p0), .val (.int p1), .val (.int p2), .val (.int p3), .val (.int p4), .val (.ref b338), .val (.ref r_418), .val (.int (Int32.ofNat pq)), .unset, .unset, .unset] [(.int (59 : Int32)), (.int ch_377)]))
    by_cases hc514 : ch_377 = (59 : Int32)
    · refine OEnd.of (fun tq kq => XS.icmpNo X511.here hx rfl (hb hby at_81) rfl (teq hc514).2 kq) ?_
      show OEnd p e below _ (T511.setTop (mkF m 84 #[.val (.int p0), .val (.int p1), .val (.int p2), .val (.int p3), .val (.int p4), .val (.ref b338), .val (.ref r_418), .val (.int (Int32.ofNat pq)), .unset, .unset, .unset] []))
      refine OEnd.of (fun tq kq => XS.iconst X511.here hx rfl (hb hby at_84) kq) ?_
      show OEnd p e below _ (T511.setTop (mkF m 85 #[.val (.int p0), .val (.int p1), .val (.int p2), .val (.int p3), .val (.int p4), .val (.ref b338), .val (.ref r_418), .val (.int (Int32.ofNat pq)), .unset, .unset, .unset] [(.int (3 : Int32))]))
      refine OEnd.of (fun tq kq => XS.istore X511.here hx rfl (hb hby at_85) rfl (l' := #[.val (.int p0), .val (.int p1), .val (.int p2), .val (.int p3), .val (.int p4), .val (.ref b338), .val (.ref r_418), .val (.int (3 : Int32)), .unset, .unset, .unset]) rfl kq) ?_
      show OEnd p e below _ (T511.setTop (mkF m 87 #[.val (.int p0), .val (.int p1), .val (.int p2), .val (.int p3), .val (.int p4), .val (.ref b338), .val (.ref r_418), .val (.int (3 : Int32)), .unset, .unset, .unset] []))
      exact J507 _ T511 _ 3 X511 e511 N511 ⟨_, hS511, hk511⟩ hZ511 hown511 HR511 (own_Fst.yes (D := (fun j => [ch_344, ch_355, ch_366, ch_377, ch_388].getD j 0 = (59 : Int32))) (i := 3) (by decide) hc514)
    · refine OEnd.of (fun tq kq => XS.icmpYes X511.here hx rfl (pc0 := 81) (pc' := 87) rfl (hb hby at_81) rfl (feq hc514).2 (by decide) (by decide) kq) ?_
      show OEnd p e below _ (T511.setTop (mkF m 87 #[.val (.int p0), .val (.int p1), .val (.int p2), .val (.int p3), .val (.int p4), .val (.ref b338), .val (.ref r_418), .val (.int (Int32.ofNat pq)), .unset, .unset, .unset] []))
      exact J507 _ T511 _ pq X511 e511 N511 ⟨_, hS511, hk511⟩ hZ511 hown511 HR511 (own_Fst.no hq (fun q => hc514 q.2))
  have J515 : ∀ (vm515 : Vm) (T515 : State) (Lo515 : List Loc) (pq : Nat), Stand p l e room_1 (s.setVm vm515) m #[(.int p0), (.int p1), (.int p2), (.int p3), (.int p4)] below meth c T515 Lo515 15 86 → T515.heap = h413 → Fr Z.heap.size Lo515 → (∃ k0, s.Since vm515 k0 ∧ k0 ≤ h413.size) → Z.Warmed39 (s.setVm vm515).vm → (s.setVm vm515).vm.findClass "com/example/postil/postil/server/HeaderFieldsMediaTypePinLaw" = some m.cls → CHr Z EL s.vm h0 vm515 h413 → (own_Fst (fun j => [ch_344, ch_355, ch_366, ch_377, ch_388].getD j 0 = (59 : Int32)) 5 5 pq) → OEnd p e below (GW s Z EL (Qrm0 Z zc fm rt bl lg lv lk ci p0 p1 p2 p3 p4 h0) 40 4288) (T515.setTop (mkF m 63 #[.val (.int p0), .val (.int p1), .val (.int p2), .val (.int p3), .val (.int p4), .val (.ref b338), .val (.ref r_418), .val (.int (Int32.ofNat pq)), .unset, .unset, .unset] [])) := by
    rintro vm515 T515 Lo515 pq X515 e515 N515 ⟨kk515, hS515, hk515⟩ hZ515 hown515 HR515 hq
    show OEnd p e below _ (T515.setTop (mkF m 63 #[.val (.int p0), .val (.int p1), .val (.int p2), .val (.int p3), .val (.int p4), .val (.ref b338), .val (.ref r_418), .val (.int (Int32.ofNat pq)), .unset, .unset, .unset] []))
    refine OEnd.of (fun tq kq => XS.aload X515.here hx rfl (hb hby at_63) rfl rfl kq) ?_
    show OEnd p e below _ (T515.setTop (mkF m 65 #[.val (.int p0), .val (.int p1), .val (.int p2), .val (.int p3), .val (.int p4), .val (.ref b338), .val (.ref r_418), .val (.int (Int32.ofNat pq)), .unset, .unset, .unset] [(.ref b338)]))
    refine OEnd.of (fun tq kq => XS.iconst X515.here hx rfl (hb hby at_65) kq) ?_
    show OEnd p e below _ (T515.setTop (mkF m 66 #[.val (.int p0), .val (.int p1), .val (.int p2), .val (.int p3), .val (.int p4), .val (.ref b338), .val (.ref r_418), .val (.int (Int32.ofNat pq)), .unset, .unset, .unset] [(.int (4 : Int32)), (.ref b338)]))
    have K516 : Keep h391 h413 [] := ((K403.trans Kq405 (allS (Or.inr (Nat.le_of_eq g396.symm)) all0)).trans Kq413 all0)
    have Vc517 := (V392.keep K516 nin0)
    obtain ⟨cl517, Ar517, q517, S517, N517, H517, G517⟩ := Vc517
    have hin517 : ¬ ((4 : Int32) < 0 ∨ cl517.slots.size ≤ ((4 : Int32)).toNatClampNeg) := inb_of S517 ⟨by decide, by decide⟩
    refine OEnd.of (X515.caload hx (j := (4 : Int32)) (v := (.int ch_388)) (by rw [e515]; exact Ar517.1) (State.isArrayOf_alike hZ515.alike Ar517.2.1) Ar517.2.2 hin517 (H517.at hin517 rfl) (g := (mkF m 66 #[.val (.int p0), .val (.int p1), .val (.int p2), .val (.int p3), .val (.int p4), .val (.ref b338), .val (.ref r_418), .val (.int (Int32.ofNat pq)), .unset, .unset, .unset] [(.int (4 : Int32)), (.ref b338)])) rfl rfl (hb hby at_66)) ?_
    show OEnd p e below _ (T515.setTop (mkF m 67 #[.val (.int p0), .val (.int p1), .val (.int p2), .val (.int p3), .val (.int p4), .val (.ref b338), .val (.ref r_418), .val (.int (Int32.ofNat pq)), .unset, .unset, .unset] [(.int ch_388)]))
    refine OEnd.of (fun tq kq => XS.bipush X515.here hx rfl (hb hby at_67) kq) ?_
    show OEnd p e below _ (T515.setTop (mkF m 69 #[.val (.int p0), .val (.int p1), .val (.int p2), .val (.int p3), .val (.int p4), .val (.ref b338), .val (.ref r_418), .val (.int (Int32.ofNat pq)), .unset, .unset, .unset] [(.int (59 : Int32)), (.int ch_388)]))
    by_cases hc518 : ch_388 = (59 : Int32)
    · refine OEnd.of (fun tq kq => XS.icmpNo X515.here hx rfl (hb hby at_69) rfl (teq hc518).2 kq) ?_
      show OEnd p e below _ (T515.setTop (mkF m 72 #[.val (.int p0), .val (.int p1), .val (.int p2), .val (.int p3), .val (.int p4), .val (.ref b338), .val (.ref r_418), .val (.int (Int32.ofNat pq)), .unset, .unset, .unset] []))
      refine OEnd.of (fun tq kq => XS.iconst X515.here hx rfl (hb hby at_72) kq) ?_
      show OEnd p e below _ (T515.setTop (mkF m 73 #[.val (.int p0), .val (.int p1), .val (.int p2), .val (.int p3), .val (.int p4), .val (.ref b338), .val (.ref r_418), .val (.int (Int32.ofNat pq)), .unset, .unset, .unset] [(.int (4 : Int32))]))
      refine OEnd.of (fun tq kq => XS.istore X515.here hx rfl (hb hby at_73) rfl (l' := #[.val (.int p0), .val (.int p1), .val (.int p2), .val (.int p3), .val (.int p4), .val (.ref b338), .val (.ref r_418), .val (.int (4 : Int32)), .unset, .unset, .unset]) rfl kq) ?_
      show OEnd p e below _ (T515.setTop (mkF m 75 #[.val (.int p0), .val (.int p1), .val (.int p2), .val (.int p3), .val (.int p4), .val (.ref b338), .val (.ref r_418), .val (.int (4 : Int32)), .unset, .unset, .unset] []))
      exact J511 _ T515 _ 4 X515 e515 N515 ⟨_, hS515, hk515⟩ hZ515 hown515 HR515 (own_Fst.yes (D := (fun j => [ch_344, ch_355, ch_366, ch_377, ch_388].getD j 0 = (59 : Int32))) (i := 4) (by decide) hc518)
    · refine OEnd.of (fun tq kq => XS.icmpYes X515.here hx rfl (pc0 := 69) (pc' := 75) rfl (hb hby at_69) rfl (feq hc518).2 (by decide) (by decide) kq) ?_
      show OEnd p e below _ (T515.setTop (mkF m 75 #[.val (.int p0), .val (.int p1), .val (.int p2), .val (.int p3), .val (.int p4), .val (.ref b338), .val (.ref r_418), .val (.int (Int32.ofNat pq)), .unset, .unset, .unset] []))
      exact J511 _ T515 _ pq X515 e515 N515 ⟨_, hS515, hk515⟩ hZ515 hown515 HR515 (own_Fst.no hq (fun q => hc518 q.2))
  exact J515 _ T413 _ 5 X413 e413 N425 ⟨_, S413, hk413⟩ hZ413 hown413 HR427 (own_Fst.base (by decide))
set_option maxRecDepth 65536 in
set_option maxHeartbeats 40000000 in
theorem comes_1 {Post : Tables → Env → Array Value → State → Outcome → State → Prop} (hpost : ∀ tb e args s v u, (limb_1_1.after args s (.returned v) u = true ∧ limb_1_2.after args s (.returned v) u = true ∧ True) → ReturnedEndW s (.returned v) u (Jvm.fieldLocs frame_1_writes args s ++ Jvm.arrayLocs frame_1_arrays args s ++ Jvm.staticLocs frame_1_statics s) 40 4288 → Post tb e args s (.returned v) u) :
    ArmFor flags0 classFile x code maxLocals ret World_1 tables_1 room_1 Calls_1 rest_1 Pre_1 Post := by
  intro l hfl _ _ p e ha hc hk s m args below hf hA hF happ hP
  obtain ⟨hcalls, hrest, hpre⟩ := hP
  obtain ⟨-, -, -, hnamed, -, -, -, hat⟩ := (Spec.applies_iff hf).mp happ
  obtain ⟨hg, hn⟩ := and_e (Cond.before_iff.mp (show (Jvm.Cond.and given_1 narrow_1).before args s = true from hpre))
  obtain ⟨hcnt, hg0⟩ := and_e hg
  obtain ⟨ga0, hg1⟩ := and_e hg0
  obtain ⟨ga1, hg2⟩ := and_e hg1
  obtain ⟨ga2, hg3⟩ := and_e hg2
  obtain ⟨ga3, hg4⟩ := and_e hg3
  have ga4 := hg4
  obtain ⟨w0, w1, w2, w3, w4, rfl⟩ : ∃ w0 w1 w2 w3 w4 : Value, args = #[w0, w1, w2, w3, w4] := by
    have hs : args.size = 5 := by simpa [Cond.value, given_1] using hcnt
    obtain ⟨L⟩ := args
    match L, hs with
    | [w0, w1, w2, w3, w4], _ => exact ⟨w0, w1, w2, w3, w4, rfl⟩
  have hw := fun d (hd : d ∈ tables_1) => atoms_spec (ws := Jvm.Cond.code x code maxLocals ret :: tables_1) hat d (List.mem_cons_of_mem _ hd)
  have hfit : Fit s := fun {y c} hc i hi => by
    obtain ⟨ha, rfl⟩ := Array.getElem?_eq_some_iff.mp hc
    have q := List.all_eq_true.mp ((Array.all_eq_true_iff_forall_mem.mp hF) _ (Array.getElem_mem ha)) i (List.mem_range.mpr hi)
    simpa [Array.getElem?_eq_getElem hi] using q
  obtain ⟨hsets, hown0⟩ := atoms_of _ (rest_1_c_eq ▸ (show rest_1_c.before _ s = true from hrest))
  obtain ⟨i0, ei0⟩ := is_v ga0
  obtain rfl : w0 = (.int i0) := Option.some.inj ei0
  obtain ⟨i1, ei1⟩ := is_v ga1
  obtain rfl : w1 = (.int i1) := Option.some.inj ei1
  obtain ⟨i2, ei2⟩ := is_v ga2
  obtain rfl : w2 = (.int i2) := Option.some.inj ei2
  obtain ⟨i3, ei3⟩ := is_v ga3
  obtain rfl : w3 = (.int i3) := Option.some.inj ei3
  obtain ⟨i4, ei4⟩ := is_v ga4
  obtain rfl : w4 = (.int i4) := Option.some.inj ei4
  have n3 := not_v (Cond.before_iff.mp (hsets _ (List.mem_of_getElem? (i := 2) rfl)))
  obtain ⟨zc, ezc⟩ := is_v (Cond.before_iff.mp (hsets _ (List.mem_of_getElem? (i := 1) rfl)))
  have S_CS : Sta s s.heap "java/lang/String" "COMPACT_STRINGS" "Z" (.int zc) := Sta.start ezc (Or.inl (hsets _ (List.mem_of_getElem? (i := 0) rfl)))
  have hzc : ¬ zc = (0 : Int32) := gotF (Cond.eq_ints ezc (Term.int_eval (0))) n3
  obtain ⟨fm, efm, h_fm⟩ := isR_v (Cond.before_iff.mp (hsets _ (List.mem_of_getElem? (i := 8) rfl)))
  have S_SF : Sta s s.heap "jdk/internal/util/Preconditions" "SIOOBE_FORMATTER" "Ljava/util/function/BiFunction;" fm := Sta.start efm (Or.inl (hsets _ (List.mem_of_getElem? (i := 7) rfl)))
  obtain ⟨rt, ert⟩ := exa_v (Cond.before_iff.mp (hsets _ (List.mem_of_getElem? (i := 11) rfl)))
  have S_RT : Sta s s.heap "java/util/Locale" "ROOT" "Ljava/util/Locale;" (.ref rt) := Sta.start ert (Or.inl (hsets _ (List.mem_of_getElem? (i := 10) rfl)))
  have E_rt := Exa.start ert (Cond.before_iff.mp (hsets _ (List.mem_of_getElem? (i := 11) rfl)))
  obtain ⟨bl, ebl⟩ := exa_v (Cond.before_iff.mp (hsets _ (List.mem_of_getElem? (i := 12) rfl)))
  have E_bl := Exa.start ebl (Cond.before_iff.mp (hsets _ (List.mem_of_getElem? (i := 12) rfl)))
  have F_bl := Fld.start ((fld_at ert).symm.trans ebl)
  obtain ⟨lg, elg⟩ := exa_v (Cond.before_iff.mp (hsets _ (List.mem_of_getElem? (i := 13) rfl)))
  have E_lg := Exa.start elg (Cond.before_iff.mp (hsets _ (List.mem_of_getElem? (i := 13) rfl)))
  have F_lg := Fld.start ((fld_at ebl).symm.trans elg)
  obtain ⟨lv, elv⟩ := arr_v (Cond.before_iff.mp (hsets _ (List.mem_of_getElem? (i := 15) rfl)))
  have F_lv := Fld.start ((fld_at elg).symm.trans elv)
  obtain ⟨lk, A_lv⟩ := own_arv0 hfit elv (Cond.before_iff.mp (hsets _ (List.mem_of_getElem? (i := 15) rfl))) (Cond.before_iff.mp (hsets _ (List.mem_of_getElem? (i := 17) rfl)))
  obtain ⟨ci, eci⟩ := exa_v (Cond.before_iff.mp (hsets _ (List.mem_of_getElem? (i := 20) rfl)))
  have S_CI : Sta s s.heap "java/lang/CharacterDataLatin1" "instance" "Ljava/lang/CharacterDataLatin1;" (.ref ci) := Sta.start eci (Or.inl (hsets _ (List.mem_of_getElem? (i := 19) rfl)))
  have E_ci := Exa.start eci (Cond.before_iff.mp (hsets _ (List.mem_of_getElem? (i := 20) rfl)))
  have hEL : EW s #[(.int i0), (.int i1), (.int i2), (.int i3), (.int i4)] EL := (EW.cons (hw _ (List.mem_of_getElem? (i := 96) rfl)) (by decide) (EW.cons (hw _ (List.mem_of_getElem? (i := 180) rfl)) (by decide) (EW.cons (hw _ (List.mem_of_getElem? (i := 181) rfl)) (by decide) (EW.cons (hw _ (List.mem_of_getElem? (i := 182) rfl)) (by decide) EW.nil))))
  have hCH : CHv s EL s.vm s.heap := CHv.start hEL (fun p hp => hcalls.1 p hp) (hsets _ (List.mem_of_getElem? (i := 2) rfl)) (hw _ (List.mem_of_getElem? (i := 23) rfl)) (hw _ (List.mem_of_getElem? (i := 6) rfl))
  obtain ⟨n, o, h1, h2, h3, _, L, rfl, ⟨rfl, N, -⟩, -, hq⟩ := rm0 l s _ hw zc fm rt bl lg lv lk ci S_CS hzc S_SF h_fm S_RT E_rt F_bl E_bl F_lg E_lg F_lv A_lv S_CI E_ci hEL tables_1 i0 i1 i2 i3 i4  s.heap ⟨Nat.le_refl _, fun _ _ q => q⟩  p e ha hc hk s m _ below hf ((Spec.applies_iff_loose hf).mp happ).1 ⟨rfl, State.Warmed39.refl s, rfl, hCH⟩ trivial
  refine ⟨n, _, h1, h2, h3, hpost _ _ _ _ _ _ ⟨Cond.after_iff.mpr rfl, Cond.after_iff.mpr (eq_i res_at (Term.int_eval (1)) rfl), trivial⟩ ⟨hq.1, hq.2.1, hq.2.2.1, (hq.2.2.2.sift fun y hy => Or.inr (N y hy)).mono (by decide) (by decide)⟩⟩
theorem main_1_1 : Claimed_1_1 := comes_1 fun _ _ _ _ _ _ h hF => ⟨h.1, hF⟩
theorem main_1_2 : Claimed_1_2 := comes_1 fun _ _ _ _ _ _ h hF => ⟨h.2.1, hF⟩
end Jvm.Pilot.@@N@@
namespace Jvm.Pilot.@@N@@
open Jvm Jvm.ClassFile Sem Op Lib Jvm.Free Jvm.Stand Jvm.Pilot.@@N@@.Jvm.D
/-! MADE BY PROGRAM (witnessworld.py) out of the Statement's table words and the real class files: 27 classes; the members and pool entries that the words name. The judged class is class 1, her method 4. -/
namespace start1
open Jvm.ClassFile
def u (s : String) : CpInfo := .utf8 (stringToUtf16 s)
/-- a pool by its gaps: so many unusable entries, then the entry; so many at the end -/
def gap : Nat → List CpInfo → List CpInfo
  | 0, r => r
  | n + 1, r => .unusable :: gap n r
def poolList (es : List (Nat × CpInfo)) (last : Nat) : List CpInfo := es.foldr (fun e r => gap e.1 (e.2 :: r)) (gap last [])
def pool (es : List (Nat × CpInfo)) (last : Nat) : Array CpInfo := ⟨poolList es last⟩
def fileOf (pool : Array CpInfo) (this : Nat) (attrs : Array Attribute := #[]) (ms : Array MethodInfo := #[]) (fl : Nat := 33) (sup : Nat := 0) (ifs : Array Nat := #[]) (fds : Array FieldInfo := #[]) : ClassFile where
  minorVersion := 0
  majorVersion := 65
  constantPool := pool
  accessFlags := fl
  thisClass := this
  superClass := sup
  interfaces := ifs
  fields := fds
  methods := ms
  attributes := attrs
def plain (name : String) (sup : Option ClassId) : Class where
  name := name
  kind := .ordinary
  loader := none
  accessFlags := 33
  super := sup
  interfaces := #[]
  cf := none
  fields := #[]
  methods := #[]
  instanceTypes := #[]
  staticTypes := #[]
  resolved := #[]
  callSites := []
  init := .initialized
  statics := none
  mirror := none

def pool0 : Array CpInfo := pool [(5, u "<init>"), (0, u "()V"), (1, .class_ 10), (1, u "java/lang/Object")] 113

def k0c0 : Code := { maxStack := 0, maxLocals := 1, code := object_method_1_code, exceptionTable := #[], attributes := #[] }
def k0m0 : Method := { name := "<init>", desc := "()V", sig := { parameters := [], returnType := none }, accessFlags := 1, code := some k0c0 }
/-- java/lang/Object -/
def k0 : Class := { plain "java/lang/Object" none with
  accessFlags := 33
  interfaces := #[]
  cf := some (fileOf pool0 8 #[] #[{ accessFlags := 1, nameIndex := 5, descriptorIndex := 6, attributes := #[] }] 33 0 #[] #[])
  fields := #[]
  methods := #[k0m0]
  instanceTypes := #[]
  staticTypes := #[]
  resolved := Array.replicate 124 none
  statics := none }

def pool1 : Array CpInfo := pool [(2, .class_ 4), (1, u "java/lang/Object"), (0, u "<init>"), (0, u "()V"), (0, .methodref 8 9), (0, .class_ 10), (0, .nameAndType 11 12), (0, u "java/lang/String"), (0, u "charAt"), (0, u "(I)C"), (0, .methodref 14 15), (0, .class_ 16), (0, .nameAndType 17 18), (0, u "com/example/postil/postil/server/HeaderFieldsMediaTypePinLaw"), (0, u "lower"), (0, u "(C)C"), (0, .methodref 14 20), (0, .nameAndType 21 12), (0, u "draw"), (0, .methodref 8 23), (0, .nameAndType 5 24), (0, u "([C)V"), (0, .methodref 26 27), (0, .class_ 28), (0, .nameAndType 29 30), (0, u "com/example/postil/postil/server/HeaderFields"), (0, u "mediaType"), (0, u "(Ljava/lang/String;)Ljava/lang/String;"), (0, .methodref 8 32), (0, .nameAndType 33 34), (0, u "length"), (0, u "()I"), (0, .methodref 14 36), (0, .nameAndType 37 38), (0, u "at"), (0, u "(Ljava/lang/String;II[CI)Z"), (3, u "law"), (0, u "(IIIII)Z")] 4

def k1m0 : Method := { name := "<init>", desc := "()V", sig := { parameters := [], returnType := none }, accessFlags := 1, code := none }
def k1c1 : Code := { maxStack := 2, maxLocals := 2, code := method_2_code, exceptionTable := #[], attributes := #[] }
def k1m1 : Method := { name := "draw", desc := "(I)C", sig := { parameters := [.int], returnType := some .char }, accessFlags := 10, code := some k1c1 }
def k1c2 : Code := { maxStack := 2, maxLocals := 1, code := method_3_code, exceptionTable := #[], attributes := #[] }
def k1m2 : Method := { name := "lower", desc := "(C)C", sig := { parameters := [.char], returnType := some .char }, accessFlags := 10, code := some k1c2 }
def k1c3 : Code := { maxStack := 4, maxLocals := 5, code := method_4_code, exceptionTable := #[], attributes := #[] }
def k1m3 : Method := { name := "at", desc := "(Ljava/lang/String;II[CI)Z", sig := { parameters := [(.object "java/lang/String"), .int, .int, (.array .char), .int], returnType := some .boolean }, accessFlags := 10, code := some k1c3 }
def k1c4 : Code := { maxStack := 5, maxLocals := 11, code := code, exceptionTable := #[], attributes := #[] }
def k1m4 : Method := { name := "law", desc := "(IIIII)Z", sig := { parameters := [.int, .int, .int, .int, .int], returnType := some .boolean }, accessFlags := 9, code := some k1c4 }
/-- com/example/postil/postil/server/HeaderFieldsMediaTypePinLaw -/
def k1 : Class := { plain "com/example/postil/postil/server/HeaderFieldsMediaTypePinLaw" (some 0) with
  accessFlags := 49
  interfaces := #[]
  cf := some (fileOf pool1 14 #[] #[{ accessFlags := 1, nameIndex := 5, descriptorIndex := 6, attributes := #[] }, { accessFlags := 10, nameIndex := 21, descriptorIndex := 12, attributes := #[] }, { accessFlags := 10, nameIndex := 17, descriptorIndex := 18, attributes := #[] }, { accessFlags := 10, nameIndex := 37, descriptorIndex := 38, attributes := #[] }, { accessFlags := 9, nameIndex := 42, descriptorIndex := 43, attributes := #[] }] 49 2 #[] #[])
  fields := #[]
  methods := #[k1m0, k1m1, k1m2, k1m3, k1m4]
  instanceTypes := #[]
  staticTypes := #[]
  resolved := Array.replicate 48 none
  statics := none }

def pool2 : Array CpInfo := pool [(1, .class_ 2), (0, u "java/io/Serializable"), (0, .class_ 4), (0, u "java/lang/Object")] 2

/-- java/io/Serializable -/
def k2 : Class := { plain "java/io/Serializable" (some 0) with
  accessFlags := 1537
  interfaces := #[]
  cf := some (fileOf pool2 1 #[] #[] 1537 3 #[] #[])
  fields := #[]
  methods := #[]
  instanceTypes := #[]
  staticTypes := #[]
  resolved := Array.replicate 7 none
  statics := none }

def pool3 : Array CpInfo := pool [(1, .class_ 2), (0, u "java/lang/Comparable"), (0, .class_ 4), (0, u "java/lang/Object")] 7

/-- java/lang/Comparable -/
def k3 : Class := { plain "java/lang/Comparable" (some 0) with
  accessFlags := 1537
  interfaces := #[]
  cf := some (fileOf pool3 1 #[] #[] 1537 3 #[] #[])
  fields := #[]
  methods := #[]
  instanceTypes := #[]
  staticTypes := #[]
  resolved := Array.replicate 12 none
  statics := none }

def pool4 : Array CpInfo := pool [(2, .class_ 4), (1, u "java/lang/CharSequence"), (42, .class_ 48), (0, u "java/lang/CharSequence$1CodePointIterator"), (10, .class_ 60), (0, u "java/lang/CharSequence$1CharIterator"), (5, .class_ 67), (0, u "java/lang/Object")] 63

/-- java/lang/CharSequence -/
def k4 : Class := { plain "java/lang/CharSequence" (some 0) with
  accessFlags := 1537
  interfaces := #[]
  cf := some (fileOf pool4 2 #[.nestMembers #[47, 59]] #[] 1537 66 #[] #[])
  fields := #[]
  methods := #[]
  instanceTypes := #[]
  staticTypes := #[]
  resolved := Array.replicate 131 none
  statics := none }

def pool5 : Array CpInfo := pool [(1, .class_ 2), (0, u "java/lang/constant/Constable"), (0, .class_ 4), (0, u "java/lang/Object")] 6

/-- java/lang/constant/Constable -/
def k5 : Class := { plain "java/lang/constant/Constable" (some 0) with
  accessFlags := 1537
  interfaces := #[]
  cf := some (fileOf pool5 1 #[] #[] 1537 3 #[] #[])
  fields := #[]
  methods := #[]
  instanceTypes := #[]
  staticTypes := #[]
  resolved := Array.replicate 11 none
  statics := none }

def pool6 : Array CpInfo := pool [(1, .class_ 2), (0, u "java/lang/constant/ConstantDesc"), (0, .class_ 4), (0, u "java/lang/Object")] 32

/-- java/lang/constant/ConstantDesc -/
def k6 : Class := { plain "java/lang/constant/ConstantDesc" (some 0) with
  accessFlags := 1537
  interfaces := #[]
  cf := some (fileOf pool6 1 #[] #[] 1537 3 #[] #[])
  fields := #[]
  methods := #[]
  instanceTypes := #[]
  staticTypes := #[]
  resolved := Array.replicate 37 none
  statics := none }

def pool7 : Array CpInfo := pool [(1, .methodref 2 3), (0, .class_ 4), (0, .nameAndType 5 6), (0, u "java/lang/Object"), (0, u "<init>"), (0, u "()V"), (2, .fieldref 10 11), (0, .class_ 12), (0, .nameAndType 13 14), (0, u "java/lang/String"), (0, u "value"), (0, u "[B"), (0, .fieldref 10 16), (0, .nameAndType 17 18), (0, u "coder"), (0, u "B"), (2, u "hash"), (0, u "I"), (2, u "hashIsZero"), (0, u "Z"), (0, .methodref 10 28), (0, .nameAndType 5 29), (0, u "([CIILjava/lang/Void;)V"), (8, .fieldref 10 39), (0, .nameAndType 40 26), (0, u "COMPACT_STRINGS"), (1, .class_ 44), (1, u "java/lang/StringUTF16"), (0, u "compress"), (1, .methodref 42 48), (0, .nameAndType 49 50), (0, u "coderFromArrayLen"), (0, u "([BI)B"), (56, .class_ 109), (1, u "java/lang/StringLatin1"), (32, u "()Z"), (34, .methodref 42 178), (0, .nameAndType 45 179), (0, u "([CII)[B"), (31, u "([BB)V"), (122, u "()I"), (0, .methodref 10 336), (0, .nameAndType 17 337), (0, u "()B"), (25, u "([BI)C"), (27, u "(II)V"), (35, u "(I)C"), (36, u "()Ljava/lang/String;"), (27, .methodref 10 493), (0, .nameAndType 494 142), (0, u "isLatin1"), (0, .methodref 107 496), (0, .nameAndType 497 363), (0, u "charAt"), (3, u "checkIndex"), (3, .methodref 10 506), (0, .nameAndType 507 334), (0, u "length"), (5, u "checkFromToIndex"), (7, .methodref 10 522), (0, .nameAndType 523 524), (0, u "checkBoundsBeginEnd"), (0, u "(III)V"), (50, .class_ 576), (0, u "java/lang/CharSequence"), (22, u "CASE_INSENSITIVE_ORDER"), (0, u "Ljava/util/Comparator;"), (32, .methodref 10 634), (0, .nameAndType 635 636), (0, u "indexOf"), (0, u "(II)I"), (0, .methodref 107 638), (0, .nameAndType 635 639), (0, u "([BIII)I"), (43, u "substring"), (0, u "(II)Ljava/lang/String;"), (0, .methodref 107 686), (0, .nameAndType 687 688), (0, u "newString"), (0, u "([BII)Ljava/lang/String;"), (76, u "(I)I"), (73, .methodref 107 840), (0, .nameAndType 841 842), (0, u "toLowerCase"), (0, u "(Ljava/lang/String;[BLjava/util/Locale;)Ljava/lang/String;"), (9, u "(Ljava/util/Locale;)Ljava/lang/String;"), (6, .methodref 107 860), (0, .nameAndType 861 862), (0, u "trim"), (0, u "([B)Ljava/lang/String;"), (147, u "([C)V"), (42, .fieldref 1054 1055), (0, .class_ 1056), (0, .nameAndType 1057 1058), (0, u "jdk/internal/util/Preconditions"), (0, u "SIOOBE_FORMATTER"), (0, u "Ljava/util/function/BiFunction;"), (0, .methodref 1054 1060), (0, .nameAndType 501 1061), (0, u "(IILjava/util/function/BiFunction;)I"), (0, .methodref 1054 1063), (0, .nameAndType 513 1064), (0, u "(IIILjava/util/function/BiFunction;)I"), (36, u "serialPersistentFields"), (0, u "[Ljava/io/ObjectStreamField;"), (0, .class_ 1104), (0, u "java/lang/String$CaseInsensitiveComparator"), (1, .class_ 1107), (0, u "java/io/Serializable"), (0, .class_ 1109), (0, u "java/lang/Comparable"), (0, .class_ 1111), (0, u "java/lang/constant/Constable"), (0, .class_ 1113), (0, u "java/lang/constant/ConstantDesc"), (2, u "serialVersionUID"), (0, u "J"), (3, u "REPL"), (0, u "C"), (2, u "LATIN1"), (1, u "UTF16")] 323

def k7m0 : Method := { name := "<init>", desc := "()V", sig := { parameters := [], returnType := none }, accessFlags := 1, code := none }
def k7c1 : Code := { maxStack := 5, maxLocals := 2, code := jdk_42_method_3_code, exceptionTable := #[], attributes := #[] }
def k7m1 : Method := { name := "<init>", desc := "([C)V", sig := { parameters := [(.array .char)], returnType := none }, accessFlags := 1, code := some k7c1 }
def k7c2 : Code := { maxStack := 2, maxLocals := 1, code := jdk_42_method_54_code, exceptionTable := #[], attributes := #[] }
def k7m2 : Method := { name := "length", desc := "()I", sig := { parameters := [], returnType := some .int }, accessFlags := 1, code := some k7c2 }
def k7c3 : Code := { maxStack := 2, maxLocals := 2, code := jdk_42_method_56_code, exceptionTable := #[], attributes := #[] }
def k7m3 : Method := { name := "charAt", desc := "(I)C", sig := { parameters := [.int], returnType := some .char }, accessFlags := 1, code := some k7c3 }
def k7c4 : Code := { maxStack := 3, maxLocals := 2, code := jdk_42_method_79_code, exceptionTable := #[], attributes := #[] }
def k7m4 : Method := { name := "indexOf", desc := "(I)I", sig := { parameters := [.int], returnType := some .int }, accessFlags := 1, code := some k7c4 }
def k7c5 : Code := { maxStack := 4, maxLocals := 3, code := jdk_42_method_80_code, exceptionTable := #[], attributes := #[] }
def k7m5 : Method := { name := "indexOf", desc := "(II)I", sig := { parameters := [.int, .int], returnType := some .int }, accessFlags := 1, code := some k7c5 }
def k7c6 : Code := { maxStack := 3, maxLocals := 5, code := jdk_42_method_92_code, exceptionTable := #[], attributes := #[] }
def k7m6 : Method := { name := "substring", desc := "(II)Ljava/lang/String;", sig := { parameters := [.int, .int], returnType := some (.object "java/lang/String") }, accessFlags := 1, code := some k7c6 }
def k7c7 : Code := { maxStack := 3, maxLocals := 2, code := jdk_42_method_109_code, exceptionTable := #[], attributes := #[] }
def k7m7 : Method := { name := "toLowerCase", desc := "(Ljava/util/Locale;)Ljava/lang/String;", sig := { parameters := [(.object "java/util/Locale")], returnType := some (.object "java/lang/String") }, accessFlags := 1, code := some k7c7 }
def k7c8 : Code := { maxStack := 1, maxLocals := 2, code := jdk_42_method_113_code, exceptionTable := #[], attributes := #[] }
def k7m8 : Method := { name := "trim", desc := "()Ljava/lang/String;", sig := { parameters := [], returnType := some (.object "java/lang/String") }, accessFlags := 1, code := some k7c8 }
def k7c9 : Code := { maxStack := 4, maxLocals := 6, code := jdk_42_method_149_code, exceptionTable := #[], attributes := #[] }
def k7m9 : Method := { name := "<init>", desc := "([CIILjava/lang/Void;)V", sig := { parameters := [(.array .char), .int, .int, (.object "java/lang/Void")], returnType := none }, accessFlags := 2, code := some k7c9 }
def k7c10 : Code := { maxStack := 2, maxLocals := 3, code := jdk_42_method_151_code, exceptionTable := #[], attributes := #[] }
def k7m10 : Method := { name := "<init>", desc := "([BB)V", sig := { parameters := [(.array .byte), .byte], returnType := none }, accessFlags := 0, code := some k7c10 }
def k7c11 : Code := { maxStack := 1, maxLocals := 1, code := jdk_42_method_152_code, exceptionTable := #[], attributes := #[] }
def k7m11 : Method := { name := "coder", desc := "()B", sig := { parameters := [], returnType := some .byte }, accessFlags := 0, code := some k7c11 }
def k7c12 : Code := { maxStack := 1, maxLocals := 1, code := jdk_42_method_154_code, exceptionTable := #[], attributes := #[] }
def k7m12 : Method := { name := "isLatin1", desc := "()Z", sig := { parameters := [], returnType := some .boolean }, accessFlags := 0, code := some k7c12 }
def k7c13 : Code := { maxStack := 3, maxLocals := 2, code := jdk_42_method_155_code, exceptionTable := #[], attributes := #[] }
def k7m13 : Method := { name := "checkIndex", desc := "(II)V", sig := { parameters := [.int, .int], returnType := none }, accessFlags := 8, code := some k7c13 }
def k7c14 : Code := { maxStack := 4, maxLocals := 3, code := jdk_42_method_158_code, exceptionTable := #[], attributes := #[] }
def k7m14 : Method := { name := "checkBoundsBeginEnd", desc := "(III)V", sig := { parameters := [.int, .int, .int], returnType := none }, accessFlags := 8, code := some k7c14 }
/-- java/lang/String -/
def k7 : Class := { plain "java/lang/String" (some 0) with
  accessFlags := 49
  interfaces := #[2, 3, 4, 5, 6]
  cf := some (fileOf pool7 10 #[.nestMembers #[1103]] #[{ accessFlags := 1, nameIndex := 5, descriptorIndex := 6, attributes := #[] }, { accessFlags := 1, nameIndex := 5, descriptorIndex := 1010, attributes := #[] }, { accessFlags := 1, nameIndex := 507, descriptorIndex := 334, attributes := #[] }, { accessFlags := 1, nameIndex := 497, descriptorIndex := 427, attributes := #[] }, { accessFlags := 1, nameIndex := 635, descriptorIndex := 765, attributes := #[] }, { accessFlags := 1, nameIndex := 635, descriptorIndex := 636, attributes := #[] }, { accessFlags := 1, nameIndex := 683, descriptorIndex := 684, attributes := #[] }, { accessFlags := 1, nameIndex := 841, descriptorIndex := 852, attributes := #[] }, { accessFlags := 1, nameIndex := 861, descriptorIndex := 464, attributes := #[] }, { accessFlags := 2, nameIndex := 5, descriptorIndex := 29, attributes := #[] }, { accessFlags := 0, nameIndex := 5, descriptorIndex := 211, attributes := #[] }, { accessFlags := 0, nameIndex := 17, descriptorIndex := 337, attributes := #[] }, { accessFlags := 0, nameIndex := 494, descriptorIndex := 142, attributes := #[] }, { accessFlags := 8, nameIndex := 501, descriptorIndex := 391, attributes := #[] }, { accessFlags := 8, nameIndex := 523, descriptorIndex := 524, attributes := #[] }] 49 2 #[1106, 1108, 575, 1110, 1112] #[{ accessFlags := 18, nameIndex := 13, descriptorIndex := 14, attributes := #[] }, { accessFlags := 18, nameIndex := 17, descriptorIndex := 18, attributes := #[] }, { accessFlags := 2, nameIndex := 21, descriptorIndex := 22, attributes := #[] }, { accessFlags := 2, nameIndex := 25, descriptorIndex := 26, attributes := #[] }, { accessFlags := 26, nameIndex := 1116, descriptorIndex := 1117, attributes := #[] }, { accessFlags := 24, nameIndex := 40, descriptorIndex := 26, attributes := #[] }, { accessFlags := 26, nameIndex := 1101, descriptorIndex := 1102, attributes := #[] }, { accessFlags := 26, nameIndex := 1121, descriptorIndex := 1122, attributes := #[] }, { accessFlags := 25, nameIndex := 599, descriptorIndex := 600, attributes := #[] }, { accessFlags := 24, nameIndex := 1125, descriptorIndex := 18, attributes := #[] }, { accessFlags := 24, nameIndex := 1127, descriptorIndex := 18, attributes := #[] }])
  fields := #[{ name := "value", type := (.array .byte), accessFlags := 18, slot := 0, constantValue := 0 }, { name := "coder", type := .byte, accessFlags := 18, slot := 1, constantValue := 0 }, { name := "hash", type := .int, accessFlags := 2, slot := 2, constantValue := 0 }, { name := "hashIsZero", type := .boolean, accessFlags := 2, slot := 3, constantValue := 0 }, { name := "serialVersionUID", type := .long, accessFlags := 26, slot := 0, constantValue := 0 }, { name := "COMPACT_STRINGS", type := .boolean, accessFlags := 24, slot := 1, constantValue := 0 }, { name := "serialPersistentFields", type := (.array (.object "java/io/ObjectStreamField")), accessFlags := 26, slot := 2, constantValue := 0 }, { name := "REPL", type := .char, accessFlags := 26, slot := 3, constantValue := 0 }, { name := "CASE_INSENSITIVE_ORDER", type := (.object "java/util/Comparator"), accessFlags := 25, slot := 4, constantValue := 0 }, { name := "LATIN1", type := .byte, accessFlags := 24, slot := 5, constantValue := 0 }, { name := "UTF16", type := .byte, accessFlags := 24, slot := 6, constantValue := 0 }]
  methods := #[k7m0, k7m1, k7m2, k7m3, k7m4, k7m5, k7m6, k7m7, k7m8, k7m9, k7m10, k7m11, k7m12, k7m13, k7m14]
  instanceTypes := #[(.array .byte), .byte, .int, .boolean]
  staticTypes := #[.long, .boolean, (.array (.object "java/io/ObjectStreamField")), .char, (.object "java/util/Comparator"), .byte, .byte]
  resolved := Array.replicate 1451 none
  statics := some 0 }

def pool8 : Array CpInfo := pool [(6, .class_ 8), (1, u "java/lang/Object"), (0, u "<init>"), (0, u "()V"), (1, .class_ 14), (1, u "java/lang/StringUTF16"), (31, u "$assertionsDisabled"), (0, u "Z"), (13, u "HI_BYTE_SHIFT"), (0, u "I"), (2, u "LO_BYTE_SHIFT"), (49, .methodref 12 116), (0, .nameAndType 117 118), (0, u "compress"), (0, u "([CI[BII)I"), (3, u "([CII)[B"), (138, u "coderFromArrayLen"), (0, u "([BI)B"), (106, .class_ 371), (1, u "java/lang/StringUTF16$LinesSpliterator"), (58, u "MAX_LENGTH"), (196, .class_ 628), (0, u "java/lang/StringUTF16$CodePointsSpliterator"), (0, .class_ 630), (0, u "java/lang/StringUTF16$CharsSpliterator")] 4

def k8m0 : Method := { name := "<init>", desc := "()V", sig := { parameters := [], returnType := none }, accessFlags := 0, code := none }
def k8c1 : Code := { maxStack := 2, maxLocals := 2, code := jdk_52_method_15_code, exceptionTable := #[], attributes := #[] }
def k8m1 : Method := { name := "coderFromArrayLen", desc := "([BI)B", sig := { parameters := [(.array .byte), .int], returnType := some .byte }, accessFlags := 8, code := some k8c1 }
def k8c2 : Code := { maxStack := 5, maxLocals := 6, code := jdk_52_method_16_code, exceptionTable := #[], attributes := #[] }
def k8m2 : Method := { name := "compress", desc := "([CII)[B", sig := { parameters := [(.array .char), .int, .int], returnType := some (.array .byte) }, accessFlags := 9, code := some k8c2 }
def k8c3 : Code := { maxStack := 3, maxLocals := 7, code := jdk_52_method_21_code, exceptionTable := #[], attributes := #[] }
def k8m3 : Method := { name := "compress", desc := "([CI[BII)I", sig := { parameters := [(.array .char), .int, (.array .byte), .int, .int], returnType := some .int }, accessFlags := 9, code := some k8c3 }
/-- java/lang/StringUTF16 -/
def k8 : Class := { plain "java/lang/StringUTF16" (some 0) with
  accessFlags := 48
  interfaces := #[]
  cf := some (fileOf pool8 12 #[.nestMembers #[627, 629, 369]] #[{ accessFlags := 0, nameIndex := 9, descriptorIndex := 10, attributes := #[] }, { accessFlags := 8, nameIndex := 261, descriptorIndex := 262, attributes := #[] }, { accessFlags := 9, nameIndex := 117, descriptorIndex := 122, attributes := #[] }, { accessFlags := 9, nameIndex := 117, descriptorIndex := 118, attributes := #[] }] 48 6 #[] #[{ accessFlags := 26, nameIndex := 61, descriptorIndex := 62, attributes := #[] }, { accessFlags := 26, nameIndex := 65, descriptorIndex := 62, attributes := #[] }, { accessFlags := 24, nameIndex := 430, descriptorIndex := 62, attributes := #[] }, { accessFlags := 4120, nameIndex := 46, descriptorIndex := 47, attributes := #[] }])
  fields := #[{ name := "HI_BYTE_SHIFT", type := .int, accessFlags := 26, slot := 0, constantValue := 0 }, { name := "LO_BYTE_SHIFT", type := .int, accessFlags := 26, slot := 1, constantValue := 0 }, { name := "MAX_LENGTH", type := .int, accessFlags := 24, slot := 2, constantValue := 0 }, { name := "$assertionsDisabled", type := .boolean, accessFlags := 4120, slot := 3, constantValue := 0 }]
  methods := #[k8m0, k8m1, k8m2, k8m3]
  instanceTypes := #[]
  staticTypes := #[.int, .int, .int, .boolean]
  resolved := Array.replicate 635 none
  statics := none }

def pool9 : Array CpInfo := pool [(2, .class_ 4), (1, u "java/lang/Object"), (0, u "<init>"), (0, u "()V"), (4, .class_ 13), (1, u "java/lang/String"), (6, .methodref 11 21), (0, .nameAndType 22 23), (0, u "substring"), (0, u "(II)Ljava/lang/String;"), (17, .methodref 11 42), (0, .nameAndType 43 44), (0, u "indexOf"), (0, u "(I)I"), (3, u "()Ljava/lang/String;"), (0, .fieldref 50 51), (0, .class_ 52), (0, .nameAndType 53 54), (0, u "java/util/Locale"), (0, u "ROOT"), (0, u "Ljava/util/Locale;"), (0, .methodref 11 56), (0, .nameAndType 57 58), (0, u "toLowerCase"), (0, u "(Ljava/util/Locale;)Ljava/lang/String;"), (12, .methodref 11 72), (0, .nameAndType 73 48), (0, u "trim"), (0, .class_ 75), (0, u "com/example/postil/postil/server/HeaderFields"), (8, u "(Ljava/lang/String;)Ljava/lang/String;"), (1, u "mediaType")] 20

def k9m0 : Method := { name := "<init>", desc := "()V", sig := { parameters := [], returnType := none }, accessFlags := 2, code := none }
def k9c1 : Code := { maxStack := 3, maxLocals := 2, code := prog_10_method_5_code, exceptionTable := #[], attributes := #[] }
def k9m1 : Method := { name := "mediaType", desc := "(Ljava/lang/String;)Ljava/lang/String;", sig := { parameters := [(.object "java/lang/String")], returnType := some (.object "java/lang/String") }, accessFlags := 8, code := some k9c1 }
/-- com/example/postil/postil/server/HeaderFields -/
def k9 : Class := { plain "com/example/postil/postil/server/HeaderFields" (some 0) with
  accessFlags := 48
  interfaces := #[]
  cf := some (fileOf pool9 74 #[] #[{ accessFlags := 2, nameIndex := 5, descriptorIndex := 6, attributes := #[] }, { accessFlags := 8, nameIndex := 86, descriptorIndex := 84, attributes := #[] }] 48 2 #[] #[])
  fields := #[]
  methods := #[k9m0, k9m1]
  instanceTypes := #[]
  staticTypes := #[]
  resolved := Array.replicate 107 none
  statics := none }

def pool10 : Array CpInfo := pool [(1, .class_ 2), (0, u "java/lang/String"), (1, .class_ 6), (1, u "java/lang/Object"), (0, u "<init>"), (0, u "()V"), (0, .methodref 1 10), (0, .nameAndType 11 12), (0, u "checkIndex"), (0, u "(II)V"), (1, .class_ 16), (1, u "java/lang/StringLatin1"), (11, .methodref 29 30), (0, .class_ 31), (0, .nameAndType 32 33), (0, u "java/lang/System"), (0, u "arraycopy"), (0, u "(Ljava/lang/Object;ILjava/lang/Object;II)V"), (4, .methodref 39 40), (0, .class_ 41), (0, .nameAndType 42 43), (0, u "java/lang/Math"), (0, u "min"), (0, u "(II)I"), (9, u "([BI)C"), (12, .fieldref 67 68), (0, .class_ 69), (0, .nameAndType 70 71), (0, u "java/lang/CharacterDataLatin1"), (0, u "instance"), (0, u "Ljava/lang/CharacterDataLatin1;"), (3, u "(I)I"), (4, u "toLowerCase"), (7, .methodref 14 89), (0, .nameAndType 90 91), (0, u "canEncode"), (0, u "(I)Z"), (0, .methodref 39 93), (0, .nameAndType 94 43), (0, u "max"), (0, .methodref 14 96), (0, .nameAndType 97 98), (0, u "indexOfChar"), (0, u "([BIII)I"), (2, u "indexOf"), (10, .methodref 1 113), (0, .nameAndType 7 114), (0, u "([BB)V"), (6, u "$assertionsDisabled"), (0, u "Z"), (8, .class_ 133), (1, u "java/util/Arrays"), (17, .string 152), (0, u ""), (7, .methodref 67 161), (0, .nameAndType 80 75), (0, .methodref 163 164), (0, .class_ 165), (0, .nameAndType 166 167), (0, u "java/util/Locale"), (0, u "getLanguage"), (0, u "()Ljava/lang/String;"), (0, .string 169), (0, u "tr"), (0, .string 171), (0, u "az"), (0, .string 173), (0, u "lt"), (21, .nameAndType 196 197), (0, u "newString"), (0, u "([BII)Ljava/lang/String;"), (12, .methodref 14 195), (10, .class_ 223), (1, u "java/lang/StringLatin1$LinesSpliterator"), (8, .methodref 131 233), (0, .nameAndType 234 235), (0, u "copyOfRange"), (0, u "([BII)[B"), (16, u "charAt"), (97, u "(Ljava/lang/String;[BLjava/util/Locale;)Ljava/lang/String;"), (15, u "trim"), (0, u "([B)Ljava/lang/String;"), (22, .class_ 391), (0, u "java/lang/StringLatin1$CharsSpliterator")] 3

def k10m0 : Method := { name := "<init>", desc := "()V", sig := { parameters := [], returnType := none }, accessFlags := 0, code := none }
def k10c1 : Code := { maxStack := 2, maxLocals := 2, code := jdk_43_method_2_code, exceptionTable := #[], attributes := #[] }
def k10m1 : Method := { name := "charAt", desc := "([BI)C", sig := { parameters := [(.array .byte), .int], returnType := some .char }, accessFlags := 9, code := some k10c1 }
def k10c2 : Code := { maxStack := 2, maxLocals := 1, code := jdk_43_method_4_code, exceptionTable := #[], attributes := #[] }
def k10m2 : Method := { name := "canEncode", desc := "(I)Z", sig := { parameters := [.int], returnType := some .boolean }, accessFlags := 9, code := some k10c2 }
def k10c3 : Code := { maxStack := 4, maxLocals := 4, code := jdk_43_method_22_code, exceptionTable := #[], attributes := #[] }
def k10m3 : Method := { name := "indexOf", desc := "([BIII)I", sig := { parameters := [(.array .byte), .int, .int, .int], returnType := some .int }, accessFlags := 9, code := some k10c3 }
def k10c4 : Code := { maxStack := 2, maxLocals := 6, code := jdk_43_method_23_code, exceptionTable := #[], attributes := #[] }
def k10m4 : Method := { name := "indexOfChar", desc := "([BIII)I", sig := { parameters := [(.array .byte), .int, .int, .int], returnType := some .int }, accessFlags := 10, code := some k10c4 }
def k10c5 : Code := { maxStack := 5, maxLocals := 9, code := jdk_43_method_32_code, exceptionTable := #[], attributes := #[] }
def k10m5 : Method := { name := "toLowerCase", desc := "(Ljava/lang/String;[BLjava/util/Locale;)Ljava/lang/String;", sig := { parameters := [(.object "java/lang/String"), (.array .byte), (.object "java/util/Locale")], returnType := some (.object "java/lang/String") }, accessFlags := 9, code := some k10c5 }
def k10c6 : Code := { maxStack := 4, maxLocals := 3, code := jdk_43_method_36_code, exceptionTable := #[], attributes := #[] }
def k10m6 : Method := { name := "trim", desc := "([B)Ljava/lang/String;", sig := { parameters := [(.array .byte)], returnType := some (.object "java/lang/String") }, accessFlags := 9, code := some k10c6 }
def k10c7 : Code := { maxStack := 6, maxLocals := 3, code := jdk_43_method_47_code, exceptionTable := #[], attributes := #[] }
def k10m7 : Method := { name := "newString", desc := "([BII)Ljava/lang/String;", sig := { parameters := [(.array .byte), .int, .int], returnType := some (.object "java/lang/String") }, accessFlags := 9, code := some k10c7 }
/-- java/lang/StringLatin1 -/
def k10 : Class := { plain "java/lang/StringLatin1" (some 0) with
  accessFlags := 48
  interfaces := #[]
  cf := some (fileOf pool10 14 #[.nestMembers #[390, 221]] #[{ accessFlags := 0, nameIndex := 7, descriptorIndex := 8, attributes := #[] }, { accessFlags := 9, nameIndex := 252, descriptorIndex := 53, attributes := #[] }, { accessFlags := 9, nameIndex := 90, descriptorIndex := 91, attributes := #[] }, { accessFlags := 9, nameIndex := 101, descriptorIndex := 98, attributes := #[] }, { accessFlags := 10, nameIndex := 97, descriptorIndex := 98, attributes := #[] }, { accessFlags := 9, nameIndex := 80, descriptorIndex := 350, attributes := #[] }, { accessFlags := 9, nameIndex := 366, descriptorIndex := 367, attributes := #[] }, { accessFlags := 9, nameIndex := 196, descriptorIndex := 197, attributes := #[] }] 48 4 #[] #[{ accessFlags := 4120, nameIndex := 121, descriptorIndex := 122, attributes := #[] }])
  fields := #[{ name := "$assertionsDisabled", type := .boolean, accessFlags := 4120, slot := 0, constantValue := 0 }]
  methods := #[k10m0, k10m1, k10m2, k10m3, k10m4, k10m5, k10m6, k10m7]
  instanceTypes := #[]
  staticTypes := #[.boolean]
  resolved := Array.replicate 395 none
  statics := none }

def pool11 : Array CpInfo := pool [(1, .class_ 2), (0, u "java/lang/Math"), (1, .class_ 6), (1, u "java/lang/Object"), (0, u "<init>"), (0, u "()V"), (89, .class_ 100), (1, u "java/lang/Math$RandomNumberGeneratorHolder"), (71, u "negativeZeroFloatBits"), (0, u "J"), (2, u "negativeZeroDoubleBits"), (21, u "max"), (2, u "min"), (43, u "$assertionsDisabled"), (0, u "Z"), (88, u "(II)I"), (2, u "twoToTheDoubleScaleDown"), (0, u "D"), (4, u "twoToTheDoubleScaleUp"), (9, u "E"), (3, u "PI"), (2, u "TAU"), (2, u "DEGREES_TO_RADIANS"), (0, u "RADIANS_TO_DEGREES")] 94

def k11m0 : Method := { name := "<init>", desc := "()V", sig := { parameters := [], returnType := none }, accessFlags := 2, code := none }
def k11c1 : Code := { maxStack := 2, maxLocals := 2, code := jdk_29_method_65_code, exceptionTable := #[], attributes := #[] }
def k11m1 : Method := { name := "max", desc := "(II)I", sig := { parameters := [.int, .int], returnType := some .int }, accessFlags := 9, code := some k11c1 }
def k11c2 : Code := { maxStack := 2, maxLocals := 2, code := jdk_29_method_69_code, exceptionTable := #[], attributes := #[] }
def k11m2 : Method := { name := "min", desc := "(II)I", sig := { parameters := [.int, .int], returnType := some .int }, accessFlags := 9, code := some k11c2 }
/-- java/lang/Math -/
def k11 : Class := { plain "java/lang/Math" (some 0) with
  accessFlags := 49
  interfaces := #[]
  cf := some (fileOf pool11 1 #[.nestMembers #[98]] #[{ accessFlags := 2, nameIndex := 7, descriptorIndex := 8, attributes := #[] }, { accessFlags := 9, nameIndex := 198, descriptorIndex := 335, attributes := #[] }, { accessFlags := 9, nameIndex := 201, descriptorIndex := 335, attributes := #[] }] 49 4 #[] #[{ accessFlags := 25, nameIndex := 354, descriptorIndex := 339, attributes := #[] }, { accessFlags := 25, nameIndex := 358, descriptorIndex := 339, attributes := #[] }, { accessFlags := 25, nameIndex := 361, descriptorIndex := 339, attributes := #[] }, { accessFlags := 26, nameIndex := 364, descriptorIndex := 339, attributes := #[] }, { accessFlags := 26, nameIndex := 365, descriptorIndex := 339, attributes := #[] }, { accessFlags := 26, nameIndex := 172, descriptorIndex := 173, attributes := #[] }, { accessFlags := 26, nameIndex := 176, descriptorIndex := 173, attributes := #[] }, { accessFlags := 8, nameIndex := 344, descriptorIndex := 339, attributes := #[] }, { accessFlags := 8, nameIndex := 338, descriptorIndex := 339, attributes := #[] }, { accessFlags := 4120, nameIndex := 245, descriptorIndex := 246, attributes := #[] }])
  fields := #[{ name := "E", type := .double, accessFlags := 25, slot := 0, constantValue := 0 }, { name := "PI", type := .double, accessFlags := 25, slot := 1, constantValue := 0 }, { name := "TAU", type := .double, accessFlags := 25, slot := 2, constantValue := 0 }, { name := "DEGREES_TO_RADIANS", type := .double, accessFlags := 26, slot := 3, constantValue := 0 }, { name := "RADIANS_TO_DEGREES", type := .double, accessFlags := 26, slot := 4, constantValue := 0 }, { name := "negativeZeroFloatBits", type := .long, accessFlags := 26, slot := 5, constantValue := 0 }, { name := "negativeZeroDoubleBits", type := .long, accessFlags := 26, slot := 6, constantValue := 0 }, { name := "twoToTheDoubleScaleUp", type := .double, accessFlags := 8, slot := 7, constantValue := 0 }, { name := "twoToTheDoubleScaleDown", type := .double, accessFlags := 8, slot := 8, constantValue := 0 }, { name := "$assertionsDisabled", type := .boolean, accessFlags := 4120, slot := 9, constantValue := 0 }]
  methods := #[k11m0, k11m1, k11m2]
  instanceTypes := #[]
  staticTypes := #[.double, .double, .double, .double, .double, .long, .long, .double, .double, .boolean]
  resolved := Array.replicate 460 none
  statics := none }

def pool12 : Array CpInfo := pool [(2, .class_ 4), (1, u "java/lang/Object"), (0, u "<init>"), (0, u "()V"), (17, .class_ 26), (1, u "jdk/internal/util/Preconditions"), (6, u "checkIndex"), (13, u "checkFromToIndex"), (7, .class_ 56), (0, u "jdk/internal/util/Preconditions$4"), (57, .class_ 115), (0, u "jdk/internal/util/Preconditions$1"), (7, u "SIOOBE_FORMATTER"), (0, u "Ljava/util/function/BiFunction;"), (0, .class_ 126), (0, u "jdk/internal/util/Preconditions$2"), (3, u "AIOOBE_FORMATTER"), (0, .class_ 132), (0, u "jdk/internal/util/Preconditions$3"), (3, u "IOOBE_FORMATTER"), (41, u "(IILjava/util/function/BiFunction;)I"), (4, u "(IIILjava/util/function/BiFunction;)I")] 10

def k12m0 : Method := { name := "<init>", desc := "()V", sig := { parameters := [], returnType := none }, accessFlags := 1, code := none }
def k12c1 : Code := { maxStack := 3, maxLocals := 3, code := jdk_41_method_11_code, exceptionTable := #[], attributes := #[] }
def k12m1 : Method := { name := "checkIndex", desc := "(IILjava/util/function/BiFunction;)I", sig := { parameters := [.int, .int, (.object "java/util/function/BiFunction")], returnType := some .int }, accessFlags := 9, code := some k12c1 }
def k12c2 : Code := { maxStack := 4, maxLocals := 4, code := jdk_41_method_12_code, exceptionTable := #[], attributes := #[] }
def k12m2 : Method := { name := "checkFromToIndex", desc := "(IIILjava/util/function/BiFunction;)I", sig := { parameters := [.int, .int, .int, (.object "java/util/function/BiFunction")], returnType := some .int }, accessFlags := 9, code := some k12c2 }
/-- jdk/internal/util/Preconditions -/
def k12 : Class := { plain "jdk/internal/util/Preconditions" (some 0) with
  accessFlags := 33
  interfaces := #[]
  cf := some (fileOf pool12 24 #[.nestMembers #[55, 131, 125, 114]] #[{ accessFlags := 1, nameIndex := 5, descriptorIndex := 6, attributes := #[] }, { accessFlags := 9, nameIndex := 33, descriptorIndex := 178, attributes := #[] }, { accessFlags := 9, nameIndex := 47, descriptorIndex := 183, attributes := #[] }] 33 2 #[] #[{ accessFlags := 25, nameIndex := 123, descriptorIndex := 124, attributes := #[] }, { accessFlags := 25, nameIndex := 130, descriptorIndex := 124, attributes := #[] }, { accessFlags := 25, nameIndex := 136, descriptorIndex := 124, attributes := #[] }])
  fields := #[{ name := "SIOOBE_FORMATTER", type := (.object "java/util/function/BiFunction"), accessFlags := 25, slot := 0, constantValue := 0 }, { name := "AIOOBE_FORMATTER", type := (.object "java/util/function/BiFunction"), accessFlags := 25, slot := 1, constantValue := 0 }, { name := "IOOBE_FORMATTER", type := (.object "java/util/function/BiFunction"), accessFlags := 25, slot := 2, constantValue := 0 }]
  methods := #[k12m0, k12m1, k12m2]
  instanceTypes := #[]
  staticTypes := #[(.object "java/util/function/BiFunction"), (.object "java/util/function/BiFunction"), (.object "java/util/function/BiFunction")]
  resolved := Array.replicate 194 none
  statics := some 1 }

def pool13 : Array CpInfo := pool [(1, .class_ 2), (0, u "java/lang/Cloneable"), (0, .class_ 4), (0, u "java/lang/Object")] 2

/-- java/lang/Cloneable -/
def k13 : Class := { plain "java/lang/Cloneable" (some 0) with
  accessFlags := 1537
  interfaces := #[]
  cf := some (fileOf pool13 1 #[] #[] 1537 3 #[] #[])
  fields := #[]
  methods := #[]
  instanceTypes := #[]
  staticTypes := #[]
  resolved := Array.replicate 7 none
  statics := none }

def pool14 : Array CpInfo := pool [(2, .class_ 4), (1, u "sun/util/locale/BaseLocale"), (2, .class_ 8), (0, u "java/util/Locale"), (6, u "CONSTANT_LOCALES"), (0, u "Ljava/util/Map;"), (7, .class_ 26), (1, u "java/lang/Object"), (1, .fieldref 7 29), (0, .nameAndType 30 31), (0, u "baseLocale"), (0, u "Lsun/util/locale/BaseLocale;"), (2, u "localeExtensions"), (0, u "Lsun/util/locale/LocaleExtensions;"), (31, .class_ 69), (1, u "java/util/Locale$Cache"), (3, .class_ 74), (0, u "java/util/Locale$LocaleKey"), (3, u "defaultLocale"), (0, u "Ljava/util/Locale;"), (6, .class_ 88), (1, u "java/util/Locale$Category"), (4, u "defaultDisplayLocale"), (6, u "$assertionsDisabled"), (0, u "Z"), (12, u "defaultFormatLocale"), (12, u "Ljava/lang/String;"), (131, u "isoCountries"), (0, u "[Ljava/lang/String;"), (15, .class_ 278), (1, u "java/util/Locale$IsoCountryCode"), (4, u "isoLanguages"), (9, .methodref 2 294), (0, .nameAndType 295 296), (0, u "getLanguage"), (0, u "()Ljava/lang/String;"), (78, u "languageTag"), (114, .class_ 492), (1, u "java/util/Locale$LocaleNameGetter"), (125, u "hashCodeValue"), (0, u "I"), (29, u "ROOT"), (129, .class_ 781), (1, u "java/util/Locale$FilteringMode"), (39, u "ENGLISH"), (2, u "FRENCH"), (2, u "GERMAN"), (2, u "ITALIAN"), (2, u "JAPANESE"), (2, u "KOREAN"), (2, u "CHINESE"), (2, u "SIMPLIFIED_CHINESE"), (2, u "TRADITIONAL_CHINESE"), (2, u "FRANCE"), (2, u "GERMANY"), (2, u "ITALY"), (2, u "JAPAN"), (2, u "KOREA"), (2, u "UK"), (2, u "US"), (2, u "CANADA"), (2, u "CANADA_FRENCH"), (2, u "CHINA"), (2, u "PRC"), (2, u "TAIWAN"), (13, u "serialPersistentFields"), (0, u "[Ljava/io/ObjectStreamField;"), (0, .class_ 898), (0, u "java/lang/Cloneable"), (0, .class_ 900), (0, u "java/io/Serializable"), (2, u "PRIVATE_USE_EXTENSION"), (0, u "C"), (2, u "UNICODE_LOCALE_EXTENSION"), (1, u "serialVersionUID"), (0, u "J"), (2, u "DISPLAY_LANGUAGE"), (1, u "DISPLAY_COUNTRY"), (1, u "DISPLAY_VARIANT"), (1, u "DISPLAY_SCRIPT"), (1, u "DISPLAY_UEXT_KEY"), (1, u "DISPLAY_UEXT_TYPE"), (174, .class_ 1099), (0, u "java/util/Locale$LanguageRange"), (0, .class_ 1101), (0, u "java/util/Locale$Builder"), (0, .class_ 1103), (0, u "java/util/Locale$IsoCountryCode$3"), (0, .class_ 1105), (0, u "java/util/Locale$IsoCountryCode$2"), (0, .class_ 1107), (0, u "java/util/Locale$IsoCountryCode$1")] 46

def k14c0 : Code := { maxStack := 1, maxLocals := 1, code := jdk_2628_method_27_code, exceptionTable := #[], attributes := #[] }
def k14m0 : Method := { name := "getLanguage", desc := "()Ljava/lang/String;", sig := { parameters := [], returnType := some (.object "java/lang/String") }, accessFlags := 1, code := some k14c0 }
/-- java/util/Locale -/
def k14 : Class := { plain "java/util/Locale" (some 0) with
  accessFlags := 49
  interfaces := #[13, 2]
  cf := some (fileOf pool14 7 #[.nestMembers #[1098, 779, 1100, 86, 490, 73, 67, 276, 1102, 1104, 1106]] #[{ accessFlags := 1, nameIndex := 295, descriptorIndex := 296, attributes := #[] }] 49 24 #[897, 899] #[{ accessFlags := 25, nameIndex := 821, descriptorIndex := 79, attributes := #[] }, { accessFlags := 25, nameIndex := 824, descriptorIndex := 79, attributes := #[] }, { accessFlags := 25, nameIndex := 827, descriptorIndex := 79, attributes := #[] }, { accessFlags := 25, nameIndex := 830, descriptorIndex := 79, attributes := #[] }, { accessFlags := 25, nameIndex := 833, descriptorIndex := 79, attributes := #[] }, { accessFlags := 25, nameIndex := 836, descriptorIndex := 79, attributes := #[] }, { accessFlags := 25, nameIndex := 839, descriptorIndex := 79, attributes := #[] }, { accessFlags := 25, nameIndex := 842, descriptorIndex := 79, attributes := #[] }, { accessFlags := 25, nameIndex := 845, descriptorIndex := 79, attributes := #[] }, { accessFlags := 25, nameIndex := 848, descriptorIndex := 79, attributes := #[] }, { accessFlags := 25, nameIndex := 851, descriptorIndex := 79, attributes := #[] }, { accessFlags := 25, nameIndex := 854, descriptorIndex := 79, attributes := #[] }, { accessFlags := 25, nameIndex := 857, descriptorIndex := 79, attributes := #[] }, { accessFlags := 25, nameIndex := 860, descriptorIndex := 79, attributes := #[] }, { accessFlags := 25, nameIndex := 863, descriptorIndex := 79, attributes := #[] }, { accessFlags := 25, nameIndex := 866, descriptorIndex := 79, attributes := #[] }, { accessFlags := 25, nameIndex := 869, descriptorIndex := 79, attributes := #[] }, { accessFlags := 25, nameIndex := 872, descriptorIndex := 79, attributes := #[] }, { accessFlags := 25, nameIndex := 649, descriptorIndex := 79, attributes := #[] }, { accessFlags := 26, nameIndex := 15, descriptorIndex := 16, attributes := #[] }, { accessFlags := 25, nameIndex := 875, descriptorIndex := 79, attributes := #[] }, { accessFlags := 25, nameIndex := 878, descriptorIndex := 79, attributes := #[] }, { accessFlags := 25, nameIndex := 881, descriptorIndex := 79, attributes := #[] }, { accessFlags := 25, nameIndex := 903, descriptorIndex := 904, attributes := #[] }, { accessFlags := 25, nameIndex := 907, descriptorIndex := 904, attributes := #[] }, { accessFlags := 24, nameIndex := 909, descriptorIndex := 910, attributes := #[] }, { accessFlags := 26, nameIndex := 913, descriptorIndex := 619, attributes := #[] }, { accessFlags := 26, nameIndex := 915, descriptorIndex := 619, attributes := #[] }, { accessFlags := 26, nameIndex := 917, descriptorIndex := 619, attributes := #[] }, { accessFlags := 26, nameIndex := 919, descriptorIndex := 619, attributes := #[] }, { accessFlags := 26, nameIndex := 921, descriptorIndex := 619, attributes := #[] }, { accessFlags := 26, nameIndex := 923, descriptorIndex := 619, attributes := #[] }, { accessFlags := 130, nameIndex := 30, descriptorIndex := 31, attributes := #[] }, { accessFlags := 130, nameIndex := 34, descriptorIndex := 35, attributes := #[] }, { accessFlags := 130, nameIndex := 618, descriptorIndex := 619, attributes := #[] }, { accessFlags := 74, nameIndex := 78, descriptorIndex := 79, attributes := #[] }, { accessFlags := 74, nameIndex := 93, descriptorIndex := 79, attributes := #[] }, { accessFlags := 74, nameIndex := 114, descriptorIndex := 79, attributes := #[] }, { accessFlags := 194, nameIndex := 375, descriptorIndex := 127, attributes := #[] }, { accessFlags := 26, nameIndex := 895, descriptorIndex := 896, attributes := #[] }, { accessFlags := 74, nameIndex := 283, descriptorIndex := 260, attributes := #[] }, { accessFlags := 74, nameIndex := 259, descriptorIndex := 260, attributes := #[] }, { accessFlags := 4120, nameIndex := 100, descriptorIndex := 101, attributes := #[] }])
  fields := #[{ name := "ENGLISH", type := (.object "java/util/Locale"), accessFlags := 25, slot := 0, constantValue := 0 }, { name := "FRENCH", type := (.object "java/util/Locale"), accessFlags := 25, slot := 1, constantValue := 0 }, { name := "GERMAN", type := (.object "java/util/Locale"), accessFlags := 25, slot := 2, constantValue := 0 }, { name := "ITALIAN", type := (.object "java/util/Locale"), accessFlags := 25, slot := 3, constantValue := 0 }, { name := "JAPANESE", type := (.object "java/util/Locale"), accessFlags := 25, slot := 4, constantValue := 0 }, { name := "KOREAN", type := (.object "java/util/Locale"), accessFlags := 25, slot := 5, constantValue := 0 }, { name := "CHINESE", type := (.object "java/util/Locale"), accessFlags := 25, slot := 6, constantValue := 0 }, { name := "SIMPLIFIED_CHINESE", type := (.object "java/util/Locale"), accessFlags := 25, slot := 7, constantValue := 0 }, { name := "TRADITIONAL_CHINESE", type := (.object "java/util/Locale"), accessFlags := 25, slot := 8, constantValue := 0 }, { name := "FRANCE", type := (.object "java/util/Locale"), accessFlags := 25, slot := 9, constantValue := 0 }, { name := "GERMANY", type := (.object "java/util/Locale"), accessFlags := 25, slot := 10, constantValue := 0 }, { name := "ITALY", type := (.object "java/util/Locale"), accessFlags := 25, slot := 11, constantValue := 0 }, { name := "JAPAN", type := (.object "java/util/Locale"), accessFlags := 25, slot := 12, constantValue := 0 }, { name := "KOREA", type := (.object "java/util/Locale"), accessFlags := 25, slot := 13, constantValue := 0 }, { name := "UK", type := (.object "java/util/Locale"), accessFlags := 25, slot := 14, constantValue := 0 }, { name := "US", type := (.object "java/util/Locale"), accessFlags := 25, slot := 15, constantValue := 0 }, { name := "CANADA", type := (.object "java/util/Locale"), accessFlags := 25, slot := 16, constantValue := 0 }, { name := "CANADA_FRENCH", type := (.object "java/util/Locale"), accessFlags := 25, slot := 17, constantValue := 0 }, { name := "ROOT", type := (.object "java/util/Locale"), accessFlags := 25, slot := 18, constantValue := 0 }, { name := "CONSTANT_LOCALES", type := (.object "java/util/Map"), accessFlags := 26, slot := 19, constantValue := 0 }, { name := "CHINA", type := (.object "java/util/Locale"), accessFlags := 25, slot := 20, constantValue := 0 }, { name := "PRC", type := (.object "java/util/Locale"), accessFlags := 25, slot := 21, constantValue := 0 }, { name := "TAIWAN", type := (.object "java/util/Locale"), accessFlags := 25, slot := 22, constantValue := 0 }, { name := "PRIVATE_USE_EXTENSION", type := .char, accessFlags := 25, slot := 23, constantValue := 0 }, { name := "UNICODE_LOCALE_EXTENSION", type := .char, accessFlags := 25, slot := 24, constantValue := 0 }, { name := "serialVersionUID", type := .long, accessFlags := 24, slot := 25, constantValue := 0 }, { name := "DISPLAY_LANGUAGE", type := .int, accessFlags := 26, slot := 26, constantValue := 0 }, { name := "DISPLAY_COUNTRY", type := .int, accessFlags := 26, slot := 27, constantValue := 0 }, { name := "DISPLAY_VARIANT", type := .int, accessFlags := 26, slot := 28, constantValue := 0 }, { name := "DISPLAY_SCRIPT", type := .int, accessFlags := 26, slot := 29, constantValue := 0 }, { name := "DISPLAY_UEXT_KEY", type := .int, accessFlags := 26, slot := 30, constantValue := 0 }, { name := "DISPLAY_UEXT_TYPE", type := .int, accessFlags := 26, slot := 31, constantValue := 0 }, { name := "baseLocale", type := (.object "sun/util/locale/BaseLocale"), accessFlags := 130, slot := 0, constantValue := 0 }, { name := "localeExtensions", type := (.object "sun/util/locale/LocaleExtensions"), accessFlags := 130, slot := 1, constantValue := 0 }, { name := "hashCodeValue", type := .int, accessFlags := 130, slot := 2, constantValue := 0 }, { name := "defaultLocale", type := (.object "java/util/Locale"), accessFlags := 74, slot := 32, constantValue := 0 }, { name := "defaultDisplayLocale", type := (.object "java/util/Locale"), accessFlags := 74, slot := 33, constantValue := 0 }, { name := "defaultFormatLocale", type := (.object "java/util/Locale"), accessFlags := 74, slot := 34, constantValue := 0 }, { name := "languageTag", type := (.object "java/lang/String"), accessFlags := 194, slot := 3, constantValue := 0 }, { name := "serialPersistentFields", type := (.array (.object "java/io/ObjectStreamField")), accessFlags := 26, slot := 35, constantValue := 0 }, { name := "isoLanguages", type := (.array (.object "java/lang/String")), accessFlags := 74, slot := 36, constantValue := 0 }, { name := "isoCountries", type := (.array (.object "java/lang/String")), accessFlags := 74, slot := 37, constantValue := 0 }, { name := "$assertionsDisabled", type := .boolean, accessFlags := 4120, slot := 38, constantValue := 0 }]
  methods := #[k14m0]
  instanceTypes := #[(.object "sun/util/locale/BaseLocale"), (.object "sun/util/locale/LocaleExtensions"), .int, (.object "java/lang/String")]
  staticTypes := #[(.object "java/util/Locale"), (.object "java/util/Locale"), (.object "java/util/Locale"), (.object "java/util/Locale"), (.object "java/util/Locale"), (.object "java/util/Locale"), (.object "java/util/Locale"), (.object "java/util/Locale"), (.object "java/util/Locale"), (.object "java/util/Locale"), (.object "java/util/Locale"), (.object "java/util/Locale"), (.object "java/util/Locale"), (.object "java/util/Locale"), (.object "java/util/Locale"), (.object "java/util/Locale"), (.object "java/util/Locale"), (.object "java/util/Locale"), (.object "java/util/Locale"), (.object "java/util/Map"), (.object "java/util/Locale"), (.object "java/util/Locale"), (.object "java/util/Locale"), .char, .char, .long, .int, .int, .int, .int, .int, .int, (.object "java/util/Locale"), (.object "java/util/Locale"), (.object "java/util/Locale"), (.array (.object "java/io/ObjectStreamField")), (.array (.object "java/lang/String")), (.array (.object "java/lang/String")), .boolean]
  resolved := Array.replicate 1154 none
  statics := some 2 }

def pool15 : Array CpInfo := pool [(2, .class_ 4), (1, u "java/lang/Object"), (0, u "<init>"), (0, u "()V"), (7, .class_ 16), (1, u "java/util/Arrays"), (57, .class_ 76), (1, u "java/util/Arrays$NaturalOrder"), (36, .class_ 115), (1, u "java/util/Arrays$LegacyMergeSort"), (1, u "Z"), (21, u "copyOfRange"), (10, .methodref 151 152), (0, .class_ 153), (0, .nameAndType 154 155), (0, u "java/lang/System"), (0, u "arraycopy"), (0, u "(Ljava/lang/Object;ILjava/lang/Object;II)V"), (148, .methodref 305 306), (0, .class_ 307), (0, .nameAndType 308 309), (0, u "java/lang/Math"), (0, u "min"), (0, u "(II)I"), (29, .methodref 14 340), (0, .nameAndType 341 342), (0, u "copyOfRangeByte"), (0, u "([BII)[B"), (0, .methodref 14 344), (0, .nameAndType 345 346), (0, u "checkLength"), (0, u "(II)V"), (28, .class_ 376), (0, u "java/util/Arrays$ArrayList"), (68, u "$assertionsDisabled"), (269, u "MIN_ARRAY_SORT_GRAN"), (0, u "I"), (2, u "INSERTIONSORT_THRESHOLD"), (255, .class_ 976), (0, u "java/util/Arrays$ArrayItr")] 52

def k15m0 : Method := { name := "<init>", desc := "()V", sig := { parameters := [], returnType := none }, accessFlags := 2, code := none }
def k15c1 : Code := { maxStack := 4, maxLocals := 2, code := jdk_65_method_131_code, exceptionTable := #[], attributes := #[] }
def k15m1 : Method := { name := "checkLength", desc := "(II)V", sig := { parameters := [.int, .int], returnType := none }, accessFlags := 10, code := some k15c1 }
def k15c2 : Code := { maxStack := 3, maxLocals := 3, code := jdk_65_method_132_code, exceptionTable := #[], attributes := #[] }
def k15m2 : Method := { name := "copyOfRange", desc := "([BII)[B", sig := { parameters := [(.array .byte), .int, .int], returnType := some (.array .byte) }, accessFlags := 9, code := some k15c2 }
def k15c3 : Code := { maxStack := 6, maxLocals := 5, code := jdk_65_method_133_code, exceptionTable := #[], attributes := #[] }
def k15m3 : Method := { name := "copyOfRangeByte", desc := "([BII)[B", sig := { parameters := [(.array .byte), .int, .int], returnType := some (.array .byte) }, accessFlags := 10, code := some k15c3 }
/-- java/util/Arrays -/
def k15 : Class := { plain "java/util/Arrays" (some 0) with
  accessFlags := 49
  interfaces := #[]
  cf := some (fileOf pool15 14 #[.nestMembers #[975, 375, 113, 74]] #[{ accessFlags := 2, nameIndex := 5, descriptorIndex := 6, attributes := #[] }, { accessFlags := 10, nameIndex := 345, descriptorIndex := 346, attributes := #[] }, { accessFlags := 9, nameIndex := 139, descriptorIndex := 342, attributes := #[] }, { accessFlags := 10, nameIndex := 341, descriptorIndex := 342, attributes := #[] }] 49 2 #[] #[{ accessFlags := 26, nameIndex := 715, descriptorIndex := 716, attributes := #[] }, { accessFlags := 26, nameIndex := 719, descriptorIndex := 716, attributes := #[] }, { accessFlags := 4120, nameIndex := 445, descriptorIndex := 117, attributes := #[] }])
  fields := #[{ name := "MIN_ARRAY_SORT_GRAN", type := .int, accessFlags := 26, slot := 0, constantValue := 0 }, { name := "INSERTIONSORT_THRESHOLD", type := .int, accessFlags := 26, slot := 1, constantValue := 0 }, { name := "$assertionsDisabled", type := .boolean, accessFlags := 4120, slot := 2, constantValue := 0 }]
  methods := #[k15m0, k15m1, k15m2, k15m3]
  instanceTypes := #[]
  staticTypes := #[.int, .int, .boolean]
  resolved := Array.replicate 1029 none
  statics := none }

def pool16 : Array CpInfo := pool [(2, .class_ 4), (1, u "java/lang/Object"), (0, u "<init>"), (0, u "()V"), (1, .class_ 10), (1, u "java/lang/System"), (0, u "allowSecurityManager"), (0, u "I"), (16, u "cons"), (0, u "Ljava/io/Console;"), (77, .class_ 110), (1, u "java/lang/System$CallersHolder"), (43, u "initialErrStream"), (0, u "Ljava/io/PrintStream;"), (19, u "security"), (0, u "Ljava/lang/SecurityManager;"), (31, .class_ 209), (0, u "java/lang/System$1"), (7, u "props"), (0, u "Ljava/util/Properties;"), (2, u "lineSeparator"), (0, u "Ljava/lang/String;"), (96, .class_ 321), (1, u "java/lang/System$LoggerFinder"), (5, .class_ 328), (0, u "java/lang/System$Logger"), (67, u "err"), (2, u "out"), (91, u "notSupportedJnuEncoding"), (15, u "in"), (17, u "initialIn"), (0, u "Ljava/io/InputStream;"), (35, u "bootLayer"), (0, u "Ljava/lang/ModuleLayer;"), (99, .class_ 664), (0, u "java/lang/System$2"), (9, u "NEVER"), (2, u "MAYBE"), (49, u "arraycopy"), (0, u "(Ljava/lang/Object;ILjava/lang/Object;II)V"), (72, .class_ 802), (0, u "java/lang/System$Logger$Level")] 31

def k16m0 : Method := { name := "<init>", desc := "()V", sig := { parameters := [], returnType := none }, accessFlags := 2, code := none }
def k16m1 : Method := { name := "arraycopy", desc := "(Ljava/lang/Object;ILjava/lang/Object;II)V", sig := { parameters := [(.object "java/lang/Object"), .int, (.object "java/lang/Object"), .int, .int], returnType := none }, accessFlags := 265, code := none }
/-- java/lang/System -/
def k16 : Class := { plain "java/lang/System" (some 0) with
  accessFlags := 49
  interfaces := #[]
  cf := some (fileOf pool16 8 #[.nestMembers #[319, 327, 801, 108, 663, 208]] #[{ accessFlags := 2, nameIndex := 5, descriptorIndex := 6, attributes := #[] }, { accessFlags := 265, nameIndex := 727, descriptorIndex := 728, attributes := #[] }] 49 2 #[] #[{ accessFlags := 25, nameIndex := 507, descriptorIndex := 526, attributes := #[] }, { accessFlags := 25, nameIndex := 399, descriptorIndex := 155, attributes := #[] }, { accessFlags := 25, nameIndex := 396, descriptorIndex := 155, attributes := #[] }, { accessFlags := 10, nameIndex := 525, descriptorIndex := 526, attributes := #[] }, { accessFlags := 26, nameIndex := 674, descriptorIndex := 12, attributes := #[] }, { accessFlags := 26, nameIndex := 677, descriptorIndex := 12, attributes := #[] }, { accessFlags := 10, nameIndex := 11, descriptorIndex := 12, attributes := #[] }, { accessFlags := 74, nameIndex := 175, descriptorIndex := 176, attributes := #[] }, { accessFlags := 10, nameIndex := 491, descriptorIndex := 222, attributes := #[] }, { accessFlags := 74, nameIndex := 29, descriptorIndex := 30, attributes := #[] }, { accessFlags := 74, nameIndex := 154, descriptorIndex := 155, attributes := #[] }, { accessFlags := 10, nameIndex := 217, descriptorIndex := 218, attributes := #[] }, { accessFlags := 10, nameIndex := 221, descriptorIndex := 222, attributes := #[] }, { accessFlags := 8, nameIndex := 562, descriptorIndex := 563, attributes := #[] }])
  fields := #[{ name := "in", type := (.object "java/io/InputStream"), accessFlags := 25, slot := 0, constantValue := 0 }, { name := "out", type := (.object "java/io/PrintStream"), accessFlags := 25, slot := 1, constantValue := 0 }, { name := "err", type := (.object "java/io/PrintStream"), accessFlags := 25, slot := 2, constantValue := 0 }, { name := "initialIn", type := (.object "java/io/InputStream"), accessFlags := 10, slot := 3, constantValue := 0 }, { name := "NEVER", type := .int, accessFlags := 26, slot := 4, constantValue := 0 }, { name := "MAYBE", type := .int, accessFlags := 26, slot := 5, constantValue := 0 }, { name := "allowSecurityManager", type := .int, accessFlags := 10, slot := 6, constantValue := 0 }, { name := "security", type := (.object "java/lang/SecurityManager"), accessFlags := 74, slot := 7, constantValue := 0 }, { name := "notSupportedJnuEncoding", type := (.object "java/lang/String"), accessFlags := 10, slot := 8, constantValue := 0 }, { name := "cons", type := (.object "java/io/Console"), accessFlags := 74, slot := 9, constantValue := 0 }, { name := "initialErrStream", type := (.object "java/io/PrintStream"), accessFlags := 74, slot := 10, constantValue := 0 }, { name := "props", type := (.object "java/util/Properties"), accessFlags := 10, slot := 11, constantValue := 0 }, { name := "lineSeparator", type := (.object "java/lang/String"), accessFlags := 10, slot := 12, constantValue := 0 }, { name := "bootLayer", type := (.object "java/lang/ModuleLayer"), accessFlags := 8, slot := 13, constantValue := 0 }]
  methods := #[k16m0, k16m1]
  instanceTypes := #[]
  staticTypes := #[(.object "java/io/InputStream"), (.object "java/io/PrintStream"), (.object "java/io/PrintStream"), (.object "java/io/InputStream"), .int, .int, .int, (.object "java/lang/SecurityManager"), (.object "java/lang/String"), (.object "java/io/Console"), (.object "java/io/PrintStream"), (.object "java/util/Properties"), (.object "java/lang/String"), (.object "java/lang/ModuleLayer")]
  resolved := Array.replicate 834 none
  statics := none }

def pool17 : Array CpInfo := pool [(2, .class_ 4), (1, u "java/lang/Object"), (0, u "<init>"), (0, u "()V"), (1, .class_ 10), (1, u "java/lang/CharacterData")] 75

def k17m0 : Method := { name := "<init>", desc := "()V", sig := { parameters := [], returnType := none }, accessFlags := 0, code := none }
/-- java/lang/CharacterData -/
def k17 : Class := { plain "java/lang/CharacterData" (some 0) with
  accessFlags := 1056
  interfaces := #[]
  cf := some (fileOf pool17 8 #[] #[{ accessFlags := 0, nameIndex := 5, descriptorIndex := 6, attributes := #[] }] 1056 2 #[] #[])
  fields := #[]
  methods := #[k17m0]
  instanceTypes := #[]
  staticTypes := #[]
  resolved := Array.replicate 86 none
  statics := none }

def pool18 : Array CpInfo := pool [(2, .class_ 4), (1, u "java/lang/CharacterDataLatin1"), (0, u "A"), (0, u "[I"), (2, u "B"), (0, u "[C"), (3, u "(I)I"), (12, u "DIGITS"), (0, u "[B"), (8, u "sharpsMap"), (1, .class_ 41), (1, u "java/lang/CharacterData"), (0, u "<init>"), (0, u "()V"), (3, u "instance"), (0, u "Ljava/lang/CharacterDataLatin1;"), (63, u "toLowerCase")] 28

def k18c0 : Code := { maxStack := 2, maxLocals := 3, code := jdk_116_method_20_code, exceptionTable := #[], attributes := #[] }
def k18m0 : Method := { name := "toLowerCase", desc := "(I)I", sig := { parameters := [.int], returnType := some .int }, accessFlags := 0, code := some k18c0 }
def k18m1 : Method := { name := "<init>", desc := "()V", sig := { parameters := [], returnType := none }, accessFlags := 2, code := none }
/-- java/lang/CharacterDataLatin1 -/
def k18 : Class := { plain "java/lang/CharacterDataLatin1" (some 17) with
  accessFlags := 32
  interfaces := #[]
  cf := some (fileOf pool18 2 #[] #[{ accessFlags := 0, nameIndex := 112, descriptorIndex := 14, attributes := #[] }, { accessFlags := 2, nameIndex := 42, descriptorIndex := 43, attributes := #[] }] 32 39 #[] #[{ accessFlags := 26, nameIndex := 27, descriptorIndex := 28, attributes := #[] }, { accessFlags := 8, nameIndex := 37, descriptorIndex := 10, attributes := #[] }, { accessFlags := 24, nameIndex := 47, descriptorIndex := 48, attributes := #[] }, { accessFlags := 24, nameIndex := 5, descriptorIndex := 6, attributes := #[] }, { accessFlags := 24, nameIndex := 9, descriptorIndex := 10, attributes := #[] }])
  fields := #[{ name := "DIGITS", type := (.array .byte), accessFlags := 26, slot := 0, constantValue := 0 }, { name := "sharpsMap", type := (.array .char), accessFlags := 8, slot := 1, constantValue := 0 }, { name := "instance", type := (.object "java/lang/CharacterDataLatin1"), accessFlags := 24, slot := 2, constantValue := 0 }, { name := "A", type := (.array .int), accessFlags := 24, slot := 3, constantValue := 0 }, { name := "B", type := (.array .char), accessFlags := 24, slot := 4, constantValue := 0 }]
  methods := #[k18m0, k18m1]
  instanceTypes := #[]
  staticTypes := #[(.array .byte), (.array .char), (.object "java/lang/CharacterDataLatin1"), (.array .int), (.array .char)]
  resolved := Array.replicate 141 none
  statics := some 3 }

def pool19 : Array CpInfo := pool [(2, .class_ 4), (1, u "java/lang/Object"), (13, u "()Ljava/lang/String;"), (0, .fieldref 20 21), (0, .class_ 22), (0, .nameAndType 23 24), (0, u "sun/util/locale/BaseLocale"), (0, u "language"), (0, u "Ljava/lang/String;"), (5, u "script"), (5, u "region"), (2, u "variant"), (11, u "constantBaseLocales"), (0, u "[Lsun/util/locale/BaseLocale;"), (2, u "getLanguage"), (10, .class_ 67), (0, u "sun/util/locale/BaseLocale$Key"), (2, .class_ 72), (1, u "sun/util/locale/BaseLocale$Cache"), (24, u "OLD_ISO_CODES"), (0, u "Z"), (32, u "hash"), (0, u "I"), (41, u "US"), (15, u "ENGLISH"), (0, u "B"), (2, u "FRENCH"), (1, u "GERMAN"), (1, u "ITALIAN"), (1, u "JAPANESE"), (1, u "KOREAN"), (1, u "CHINESE"), (1, u "SIMPLIFIED_CHINESE"), (1, u "TRADITIONAL_CHINESE"), (1, u "FRANCE"), (1, u "GERMANY"), (1, u "ITALY"), (1, u "JAPAN"), (1, u "KOREA"), (1, u "UK"), (2, u "CANADA"), (1, u "CANADA_FRENCH"), (1, u "ROOT"), (1, u "NUM_CONSTANTS"), (1, u "SEP")] 31

def k19c0 : Code := { maxStack := 1, maxLocals := 1, code := jdk_3003_method_5_code, exceptionTable := #[], attributes := #[] }
def k19m0 : Method := { name := "getLanguage", desc := "()Ljava/lang/String;", sig := { parameters := [], returnType := some (.object "java/lang/String") }, accessFlags := 1, code := some k19c0 }
/-- sun/util/locale/BaseLocale -/
def k19 : Class := { plain "sun/util/locale/BaseLocale" (some 0) with
  accessFlags := 49
  interfaces := #[]
  cf := some (fileOf pool19 20 #[.nestMembers #[70, 66]] #[{ accessFlags := 1, nameIndex := 55, descriptorIndex := 18, attributes := #[] }] 49 2 #[] #[{ accessFlags := 9, nameIndex := 51, descriptorIndex := 52, attributes := #[] }, { accessFlags := 25, nameIndex := 190, descriptorIndex := 191, attributes := #[] }, { accessFlags := 25, nameIndex := 194, descriptorIndex := 191, attributes := #[] }, { accessFlags := 25, nameIndex := 196, descriptorIndex := 191, attributes := #[] }, { accessFlags := 25, nameIndex := 198, descriptorIndex := 191, attributes := #[] }, { accessFlags := 25, nameIndex := 200, descriptorIndex := 191, attributes := #[] }, { accessFlags := 25, nameIndex := 202, descriptorIndex := 191, attributes := #[] }, { accessFlags := 25, nameIndex := 204, descriptorIndex := 191, attributes := #[] }, { accessFlags := 25, nameIndex := 206, descriptorIndex := 191, attributes := #[] }, { accessFlags := 25, nameIndex := 208, descriptorIndex := 191, attributes := #[] }, { accessFlags := 25, nameIndex := 210, descriptorIndex := 191, attributes := #[] }, { accessFlags := 25, nameIndex := 212, descriptorIndex := 191, attributes := #[] }, { accessFlags := 25, nameIndex := 214, descriptorIndex := 191, attributes := #[] }, { accessFlags := 25, nameIndex := 216, descriptorIndex := 191, attributes := #[] }, { accessFlags := 25, nameIndex := 218, descriptorIndex := 191, attributes := #[] }, { accessFlags := 25, nameIndex := 220, descriptorIndex := 191, attributes := #[] }, { accessFlags := 25, nameIndex := 174, descriptorIndex := 191, attributes := #[] }, { accessFlags := 25, nameIndex := 223, descriptorIndex := 191, attributes := #[] }, { accessFlags := 25, nameIndex := 225, descriptorIndex := 191, attributes := #[] }, { accessFlags := 25, nameIndex := 227, descriptorIndex := 191, attributes := #[] }, { accessFlags := 25, nameIndex := 229, descriptorIndex := 191, attributes := #[] }, { accessFlags := 25, nameIndex := 231, descriptorIndex := 24, attributes := #[] }, { accessFlags := 18, nameIndex := 23, descriptorIndex := 24, attributes := #[] }, { accessFlags := 18, nameIndex := 30, descriptorIndex := 24, attributes := #[] }, { accessFlags := 18, nameIndex := 36, descriptorIndex := 24, attributes := #[] }, { accessFlags := 18, nameIndex := 39, descriptorIndex := 24, attributes := #[] }, { accessFlags := 2, nameIndex := 131, descriptorIndex := 132, attributes := #[] }, { accessFlags := 26, nameIndex := 97, descriptorIndex := 98, attributes := #[] }])
  fields := #[{ name := "constantBaseLocales", type := (.array (.object "sun/util/locale/BaseLocale")), accessFlags := 9, slot := 0, constantValue := 0 }, { name := "ENGLISH", type := .byte, accessFlags := 25, slot := 1, constantValue := 0 }, { name := "FRENCH", type := .byte, accessFlags := 25, slot := 2, constantValue := 0 }, { name := "GERMAN", type := .byte, accessFlags := 25, slot := 3, constantValue := 0 }, { name := "ITALIAN", type := .byte, accessFlags := 25, slot := 4, constantValue := 0 }, { name := "JAPANESE", type := .byte, accessFlags := 25, slot := 5, constantValue := 0 }, { name := "KOREAN", type := .byte, accessFlags := 25, slot := 6, constantValue := 0 }, { name := "CHINESE", type := .byte, accessFlags := 25, slot := 7, constantValue := 0 }, { name := "SIMPLIFIED_CHINESE", type := .byte, accessFlags := 25, slot := 8, constantValue := 0 }, { name := "TRADITIONAL_CHINESE", type := .byte, accessFlags := 25, slot := 9, constantValue := 0 }, { name := "FRANCE", type := .byte, accessFlags := 25, slot := 10, constantValue := 0 }, { name := "GERMANY", type := .byte, accessFlags := 25, slot := 11, constantValue := 0 }, { name := "ITALY", type := .byte, accessFlags := 25, slot := 12, constantValue := 0 }, { name := "JAPAN", type := .byte, accessFlags := 25, slot := 13, constantValue := 0 }, { name := "KOREA", type := .byte, accessFlags := 25, slot := 14, constantValue := 0 }, { name := "UK", type := .byte, accessFlags := 25, slot := 15, constantValue := 0 }, { name := "US", type := .byte, accessFlags := 25, slot := 16, constantValue := 0 }, { name := "CANADA", type := .byte, accessFlags := 25, slot := 17, constantValue := 0 }, { name := "CANADA_FRENCH", type := .byte, accessFlags := 25, slot := 18, constantValue := 0 }, { name := "ROOT", type := .byte, accessFlags := 25, slot := 19, constantValue := 0 }, { name := "NUM_CONSTANTS", type := .byte, accessFlags := 25, slot := 20, constantValue := 0 }, { name := "SEP", type := (.object "java/lang/String"), accessFlags := 25, slot := 21, constantValue := 0 }, { name := "language", type := (.object "java/lang/String"), accessFlags := 18, slot := 0, constantValue := 0 }, { name := "script", type := (.object "java/lang/String"), accessFlags := 18, slot := 1, constantValue := 0 }, { name := "region", type := (.object "java/lang/String"), accessFlags := 18, slot := 2, constantValue := 0 }, { name := "variant", type := (.object "java/lang/String"), accessFlags := 18, slot := 3, constantValue := 0 }, { name := "hash", type := .int, accessFlags := 2, slot := 4, constantValue := 0 }, { name := "OLD_ISO_CODES", type := .boolean, accessFlags := 26, slot := 22, constantValue := 0 }]
  methods := #[k19m0]
  instanceTypes := #[(.object "java/lang/String"), (.object "java/lang/String"), (.object "java/lang/String"), (.object "java/lang/String"), .int]
  staticTypes := #[(.array (.object "sun/util/locale/BaseLocale")), .byte, .byte, .byte, .byte, .byte, .byte, .byte, .byte, .byte, .byte, .byte, .byte, .byte, .byte, .byte, .byte, .byte, .byte, .byte, .byte, (.object "java/lang/String"), .boolean]
  resolved := Array.replicate 263 none
  statics := none }

def pool20 : Array CpInfo := pool [(9, u "<init>"), (6, .class_ 18), (1, u "java/lang/Object"), (0, u "()V"), (1, .class_ 23), (1, u "jdk/internal/util/ArraysSupport"), (0, u "LOG2_ARRAY_LONG_INDEX_SCALE"), (0, u "I"), (2, u "U"), (0, u "Ljdk/internal/misc/Unsafe;"), (8, u "BIG_ENDIAN"), (0, u "Z"), (8, u "LOG2_BYTE_BIT_SIZE"), (4, u "LOG2_ARRAY_INT_INDEX_SCALE"), (54, u "JLA"), (0, u "Ljdk/internal/access/JavaLangAccess;"), (11, u "LOG2_ARRAY_BOOLEAN_INDEX_SCALE"), (9, u "LOG2_ARRAY_BYTE_INDEX_SCALE"), (5, u "LOG2_ARRAY_CHAR_INDEX_SCALE"), (5, u "LOG2_ARRAY_SHORT_INDEX_SCALE"), (18, u "LOG2_ARRAY_FLOAT_INDEX_SCALE"), (24, u "LOG2_ARRAY_DOUBLE_INDEX_SCALE"), (89, u "T_BOOLEAN"), (2, u "T_CHAR"), (1, u "T_FLOAT"), (1, u "T_DOUBLE"), (1, u "T_BYTE"), (1, u "T_SHORT"), (1, u "T_INT"), (1, u "T_LONG"), (1, u "SOFT_MAX_ARRAY_LENGTH")] 83

def k20m0 : Method := { name := "<init>", desc := "()V", sig := { parameters := [], returnType := none }, accessFlags := 2, code := none }
/-- jdk/internal/util/ArraysSupport -/
def k20 : Class := { plain "jdk/internal/util/ArraysSupport" (some 0) with
  accessFlags := 33
  interfaces := #[]
  cf := some (fileOf pool20 21 #[] #[{ accessFlags := 2, nameIndex := 9, descriptorIndex := 19, attributes := #[] }] 33 16 #[] #[{ accessFlags := 24, nameIndex := 28, descriptorIndex := 29, attributes := #[] }, { accessFlags := 26, nameIndex := 38, descriptorIndex := 39, attributes := #[] }, { accessFlags := 25, nameIndex := 121, descriptorIndex := 25, attributes := #[] }, { accessFlags := 25, nameIndex := 131, descriptorIndex := 25, attributes := #[] }, { accessFlags := 25, nameIndex := 137, descriptorIndex := 25, attributes := #[] }, { accessFlags := 25, nameIndex := 143, descriptorIndex := 25, attributes := #[] }, { accessFlags := 25, nameIndex := 53, descriptorIndex := 25, attributes := #[] }, { accessFlags := 25, nameIndex := 24, descriptorIndex := 25, attributes := #[] }, { accessFlags := 25, nameIndex := 162, descriptorIndex := 25, attributes := #[] }, { accessFlags := 25, nameIndex := 187, descriptorIndex := 25, attributes := #[] }, { accessFlags := 26, nameIndex := 48, descriptorIndex := 25, attributes := #[] }, { accessFlags := 25, nameIndex := 277, descriptorIndex := 25, attributes := #[] }, { accessFlags := 25, nameIndex := 280, descriptorIndex := 25, attributes := #[] }, { accessFlags := 25, nameIndex := 282, descriptorIndex := 25, attributes := #[] }, { accessFlags := 25, nameIndex := 284, descriptorIndex := 25, attributes := #[] }, { accessFlags := 25, nameIndex := 286, descriptorIndex := 25, attributes := #[] }, { accessFlags := 25, nameIndex := 288, descriptorIndex := 25, attributes := #[] }, { accessFlags := 25, nameIndex := 290, descriptorIndex := 25, attributes := #[] }, { accessFlags := 25, nameIndex := 292, descriptorIndex := 25, attributes := #[] }, { accessFlags := 26, nameIndex := 108, descriptorIndex := 109, attributes := #[] }, { accessFlags := 25, nameIndex := 294, descriptorIndex := 25, attributes := #[] }])
  fields := #[{ name := "U", type := (.object "jdk/internal/misc/Unsafe"), accessFlags := 24, slot := 0, constantValue := 0 }, { name := "BIG_ENDIAN", type := .boolean, accessFlags := 26, slot := 1, constantValue := 0 }, { name := "LOG2_ARRAY_BOOLEAN_INDEX_SCALE", type := .int, accessFlags := 25, slot := 2, constantValue := 0 }, { name := "LOG2_ARRAY_BYTE_INDEX_SCALE", type := .int, accessFlags := 25, slot := 3, constantValue := 0 }, { name := "LOG2_ARRAY_CHAR_INDEX_SCALE", type := .int, accessFlags := 25, slot := 4, constantValue := 0 }, { name := "LOG2_ARRAY_SHORT_INDEX_SCALE", type := .int, accessFlags := 25, slot := 5, constantValue := 0 }, { name := "LOG2_ARRAY_INT_INDEX_SCALE", type := .int, accessFlags := 25, slot := 6, constantValue := 0 }, { name := "LOG2_ARRAY_LONG_INDEX_SCALE", type := .int, accessFlags := 25, slot := 7, constantValue := 0 }, { name := "LOG2_ARRAY_FLOAT_INDEX_SCALE", type := .int, accessFlags := 25, slot := 8, constantValue := 0 }, { name := "LOG2_ARRAY_DOUBLE_INDEX_SCALE", type := .int, accessFlags := 25, slot := 9, constantValue := 0 }, { name := "LOG2_BYTE_BIT_SIZE", type := .int, accessFlags := 26, slot := 10, constantValue := 0 }, { name := "T_BOOLEAN", type := .int, accessFlags := 25, slot := 11, constantValue := 0 }, { name := "T_CHAR", type := .int, accessFlags := 25, slot := 12, constantValue := 0 }, { name := "T_FLOAT", type := .int, accessFlags := 25, slot := 13, constantValue := 0 }, { name := "T_DOUBLE", type := .int, accessFlags := 25, slot := 14, constantValue := 0 }, { name := "T_BYTE", type := .int, accessFlags := 25, slot := 15, constantValue := 0 }, { name := "T_SHORT", type := .int, accessFlags := 25, slot := 16, constantValue := 0 }, { name := "T_INT", type := .int, accessFlags := 25, slot := 17, constantValue := 0 }, { name := "T_LONG", type := .int, accessFlags := 25, slot := 18, constantValue := 0 }, { name := "JLA", type := (.object "jdk/internal/access/JavaLangAccess"), accessFlags := 26, slot := 19, constantValue := 0 }, { name := "SOFT_MAX_ARRAY_LENGTH", type := .int, accessFlags := 25, slot := 20, constantValue := 0 }]
  methods := #[k20m0]
  instanceTypes := #[]
  staticTypes := #[(.object "jdk/internal/misc/Unsafe"), .boolean, .int, .int, .int, .int, .int, .int, .int, .int, .int, .int, .int, .int, .int, .int, .int, .int, .int, (.object "jdk/internal/access/JavaLangAccess"), .int]
  resolved := Array.replicate 378 none
  statics := none }

/-- the primitive byte -/
def k21 : Class := { plain "byte" none with kind := .primitive 'B', accessFlags := 0x411 }
/-- [B -/
def k22 : Class := { plain "[B" (some 0) with kind := .array 21 .byte, interfaces := #[13, 2], accessFlags := 1041 }

/-- the primitive char -/
def k23 : Class := { plain "char" none with kind := .primitive 'C', accessFlags := 0x411 }
/-- [C -/
def k24 : Class := { plain "[C" (some 0) with kind := .array 23 .char, interfaces := #[13, 2], accessFlags := 1041 }

/-- the primitive int -/
def k25 : Class := { plain "int" none with kind := .primitive 'I', accessFlags := 0x411 }
/-- [I -/
def k26 : Class := { plain "[I" (some 0) with kind := .array 25 .int, interfaces := #[13, 2], accessFlags := 1041 }

def heap : Heap := #[{ cls := 7, slots := #[.long 0, .int 1, .null, .int 0, .null, .int 0, .int 0], vm := .statics 7 },
  { cls := 12, slots := #[.null, .null, .null], vm := .statics 12 },
  { cls := 14, slots := #[.null, .null, .null, .null, .null, .null, .null, .null, .null, .null, .null, .null, .null, .null, .null, .null, .null, .null, .ref 4, .null, .null, .null, .null, .int 0, .int 0, .long 0, .int 0, .int 0, .int 0, .int 0, .int 0, .int 0, .null, .null, .null, .null, .null, .null, .int 0], vm := .statics 14 },
  { cls := 18, slots := #[.null, .null, .ref 8, .null, .null], vm := .statics 18 },
  { cls := 14, slots := #[.ref 5, .null, .int 0, .null], vm := .none },
  { cls := 19, slots := #[.ref 6, .null, .null, .null, .int 0], vm := .none },
  { cls := 7, slots := #[.ref 7, .int 0, .int 0, .int 0], vm := .none },
  { cls := 22, slots := #[], vm := .none },
  { cls := 18, slots := #[], vm := .none }]
def classes : Array Class := #[k0, k1, k2, k3, k4, k5, k6, k7, k8, k9, k10, k11, k12, k13, k14, k15, k16, k17, k18, k19, k20, k21, k22, k23, k24, k25, k26]
def interned : List (Array UInt16 × Addr) := []
def slotsUsed : Nat := 67
def theMethod : MethodId := ⟨1, 4⟩
def args0 : Array Value := #[.int 1, .int 1, .int 1, .int 1, .int 1]
def aboutOver (below : List Frame) : State where
  vm := { classes := classes, interned := interned.toArray }
  heap := heap
  slotsUsed := slotsUsed
  threads := #[{ frames := .invoking theMethod args0 :: below }]
def below0 : List Frame := [.native { method := ⟨0, 0⟩, args := #[] }]
def about1 : State := aboutOver below0
def p0 : Program := .bare "" "" ""
def e0 : Env := launch0.env 0 0 0
theorem w_frames : about1.frames = Frame.invoking theMethod args0 :: below0 := rfl
set_option maxRecDepth 65536 in
theorem w_args : argsFit about1.vm theMethod args0 = true := by decide +kernel
theorem heapFits_list (s : State) : heapFits s = s.heap.toList.all (cellFits s) := by simp [heapFits, Array.all_toList]
set_option maxRecDepth 65536 in
theorem w_heap : heapFits about1 = true := by
  rw [heapFits_list]
  decide +kernel
set_option maxRecDepth 65536 in
theorem w_runnable : about1.curStatus? = some .runnable := by decide +kernel
set_option maxRecDepth 65536 in
theorem w_alone : about1.alone = true := by decide +kernel
set_option maxRecDepth 65536 in
theorem w_named : about1.methodNamed? x = some theMethod := by decide +kernel
set_option maxRecDepth 65536 in
theorem w_hears : about1.hears theMethod below0 = true := by decide +kernel
set_option maxRecDepth 65536 in
theorem w_ripe : about1.ripe theMethod args0 below0 = true := by decide +kernel
theorem w_running : about1.status = .running := rfl
set_option maxRecDepth 65536 in
theorem w_room : about1.hasRoom e0.platform room_1 = true :=
  launch0.hasRoom_least _ room_1 (by decide +kernel) (by decide +kernel) (by decide +kernel) (by decide +kernel) (by decide +kernel) (by decide +kernel)
theorem allAtoms_all (ts : List Jvm.Cond) (a : Array Jvm.Value) (st : Jvm.State) : (allAtoms ts).before a st = ts.all (fun c => c.before a st) := by
  induction ts with
  | nil => rfl
  | cons c t ih =>
    show (Jvm.Cond.and c (allAtoms t)).before a st = _
    rw [Jvm.Cond.before_and, ih, List.all_cons]
def words1 : List Jvm.Cond := Jvm.Cond.code x code maxLocals ret :: tables_1
/-- a 'code' word, met by the world's own term for the bytes: nothing is compared byte by byte -/
theorem code_word {y : MethodName} {bytes : ByteArray} {mx : Nat} {rt : Option FieldType} {a : Array Value} {s : State} {m : MethodId} {meth : Method} {c : Code} (h1 : s.methodNamed? y = some m) (h2 : s.vm.method? m = some meth) (h3 : meth.code = some c) (h4 : c.code = bytes)
    (h5 : (c.maxLocals == mx && c.exceptionTable.isEmpty && decide (c.maxStack ≤ mostOperands) && decide (meth.sig.returnType = rt) && !meth.locks && decide (parseMethodDescriptor y.desc = some meth.sig)) = true) : (Jvm.Cond.code y bytes mx rt).before a s = true := by
  simp only [Bool.and_eq_true, beq_iff_eq, Bool.not_eq_true', decide_eq_true_eq] at h5
  obtain ⟨⟨⟨⟨⟨g1, g2⟩, g3⟩, g4⟩, g5⟩, g6⟩ := h5
  simp [Cond.before, Cond.holds, Cond.value, h1, h2, h3, h4, g1, g2, g3, g4, g5, g6]
def isCode : Jvm.Cond → Bool
  | .code _ _ _ _ => true
  | _ => false
theorem all_split {L : List Jvm.Cond} {P : Jvm.Cond → Bool} (h1 : L.all (fun c => isCode c || P c) = true) (h2 : ∀ c ∈ L.filter isCode, P c = true) : L.all P = true := by
  refine List.all_eq_true.mpr fun c hc => ?_
  have h := List.all_eq_true.mp h1 c hc
  rcases Bool.eq_false_or_eq_true (isCode c) with hi | hi
  · exact h2 c (List.mem_filter.mpr ⟨hc, hi⟩)
  · simpa [hi] using h
set_option maxRecDepth 65536 in
theorem w_c0 : (Jvm.Cond.code x code maxLocals ret).before args0 about1 = true := code_word (m := ⟨1, 4⟩) (meth := k1m4) (c := k1c4) (by decide +kernel) rfl rfl rfl (by decide +kernel)
set_option maxRecDepth 65536 in
theorem w_c1 : (Jvm.Cond.code ({ cls := "com/example/postil/postil/server/HeaderFieldsMediaTypePinLaw", name := "draw", desc := "(I)C" } : Jvm.MethodName) method_2_code (2 : Nat) (Option.some Jvm.ClassFile.FieldType.char)).before args0 about1 = true := code_word (m := ⟨1, 1⟩) (meth := k1m1) (c := k1c1) (by decide +kernel) rfl rfl rfl (by decide +kernel)
set_option maxRecDepth 65536 in
theorem w_c2 : (Jvm.Cond.code ({ cls := "java/lang/String", name := "<init>", desc := "([C)V" } : Jvm.MethodName) jdk_42_method_3_code (2 : Nat) (Option.none : Option Jvm.ClassFile.FieldType)).before args0 about1 = true := code_word (m := ⟨7, 1⟩) (meth := k7m1) (c := k7c1) (by decide +kernel) rfl rfl rfl (by decide +kernel)
set_option maxRecDepth 65536 in
theorem w_c3 : (Jvm.Cond.code ({ cls := "java/lang/String", name := "<init>", desc := "([CIILjava/lang/Void;)V" } : Jvm.MethodName) jdk_42_method_149_code (6 : Nat) (Option.none : Option Jvm.ClassFile.FieldType)).before args0 about1 = true := code_word (m := ⟨7, 9⟩) (meth := k7m9) (c := k7c9) (by decide +kernel) rfl rfl rfl (by decide +kernel)
set_option maxRecDepth 65536 in
theorem w_c4 : (Jvm.Cond.code ({ cls := "java/lang/Object", name := "<init>", desc := "()V" } : Jvm.MethodName) object_method_1_code (1 : Nat) (Option.none : Option Jvm.ClassFile.FieldType)).before args0 about1 = true := code_word (m := ⟨0, 0⟩) (meth := k0m0) (c := k0c0) (by decide +kernel) rfl rfl rfl (by decide +kernel)
set_option maxRecDepth 65536 in
theorem w_c5 : (Jvm.Cond.code ({ cls := "java/lang/StringUTF16", name := "compress", desc := "([CII)[B" } : Jvm.MethodName) jdk_52_method_16_code (6 : Nat) (Option.some (Jvm.ClassFile.FieldType.array Jvm.ClassFile.FieldType.byte))).before args0 about1 = true := code_word (m := ⟨8, 2⟩) (meth := k8m2) (c := k8c2) (by decide +kernel) rfl rfl rfl (by decide +kernel)
set_option maxRecDepth 65536 in
theorem w_c6 : (Jvm.Cond.code ({ cls := "java/lang/StringUTF16", name := "compress", desc := "([CI[BII)I" } : Jvm.MethodName) jdk_52_method_21_code (7 : Nat) (Option.some Jvm.ClassFile.FieldType.int)).before args0 about1 = true := code_word (m := ⟨8, 3⟩) (meth := k8m3) (c := k8c3) (by decide +kernel) rfl rfl rfl (by decide +kernel)
set_option maxRecDepth 65536 in
theorem w_c7 : (Jvm.Cond.code ({ cls := "java/lang/StringUTF16", name := "coderFromArrayLen", desc := "([BI)B" } : Jvm.MethodName) jdk_52_method_15_code (2 : Nat) (Option.some Jvm.ClassFile.FieldType.byte)).before args0 about1 = true := code_word (m := ⟨8, 1⟩) (meth := k8m1) (c := k8c1) (by decide +kernel) rfl rfl rfl (by decide +kernel)
set_option maxRecDepth 65536 in
theorem w_c8 : (Jvm.Cond.code ({ cls := "com/example/postil/postil/server/HeaderFields", name := "mediaType", desc := "(Ljava/lang/String;)Ljava/lang/String;" } : Jvm.MethodName) prog_10_method_5_code (2 : Nat) (Option.some (Jvm.ClassFile.FieldType.object "java/lang/String"))).before args0 about1 = true := code_word (m := ⟨9, 1⟩) (meth := k9m1) (c := k9c1) (by decide +kernel) rfl rfl rfl (by decide +kernel)
set_option maxRecDepth 65536 in
theorem w_c9 : (Jvm.Cond.code ({ cls := "java/lang/String", name := "indexOf", desc := "(I)I" } : Jvm.MethodName) jdk_42_method_79_code (2 : Nat) (Option.some Jvm.ClassFile.FieldType.int)).before args0 about1 = true := code_word (m := ⟨7, 4⟩) (meth := k7m4) (c := k7c4) (by decide +kernel) rfl rfl rfl (by decide +kernel)
set_option maxRecDepth 65536 in
theorem w_c10 : (Jvm.Cond.code ({ cls := "java/lang/String", name := "indexOf", desc := "(II)I" } : Jvm.MethodName) jdk_42_method_80_code (3 : Nat) (Option.some Jvm.ClassFile.FieldType.int)).before args0 about1 = true := code_word (m := ⟨7, 5⟩) (meth := k7m5) (c := k7c5) (by decide +kernel) rfl rfl rfl (by decide +kernel)
set_option maxRecDepth 65536 in
theorem w_c11 : (Jvm.Cond.code ({ cls := "java/lang/String", name := "isLatin1", desc := "()Z" } : Jvm.MethodName) jdk_42_method_154_code (1 : Nat) (Option.some Jvm.ClassFile.FieldType.boolean)).before args0 about1 = true := code_word (m := ⟨7, 12⟩) (meth := k7m12) (c := k7c12) (by decide +kernel) rfl rfl rfl (by decide +kernel)
set_option maxRecDepth 65536 in
theorem w_c12 : (Jvm.Cond.code ({ cls := "java/lang/String", name := "length", desc := "()I" } : Jvm.MethodName) jdk_42_method_54_code (1 : Nat) (Option.some Jvm.ClassFile.FieldType.int)).before args0 about1 = true := code_word (m := ⟨7, 2⟩) (meth := k7m2) (c := k7c2) (by decide +kernel) rfl rfl rfl (by decide +kernel)
set_option maxRecDepth 65536 in
theorem w_c13 : (Jvm.Cond.code ({ cls := "java/lang/String", name := "coder", desc := "()B" } : Jvm.MethodName) jdk_42_method_152_code (1 : Nat) (Option.some Jvm.ClassFile.FieldType.byte)).before args0 about1 = true := code_word (m := ⟨7, 11⟩) (meth := k7m11) (c := k7c11) (by decide +kernel) rfl rfl rfl (by decide +kernel)
set_option maxRecDepth 65536 in
theorem w_c14 : (Jvm.Cond.code ({ cls := "java/lang/StringLatin1", name := "indexOf", desc := "([BIII)I" } : Jvm.MethodName) jdk_43_method_22_code (4 : Nat) (Option.some Jvm.ClassFile.FieldType.int)).before args0 about1 = true := code_word (m := ⟨10, 3⟩) (meth := k10m3) (c := k10c3) (by decide +kernel) rfl rfl rfl (by decide +kernel)
set_option maxRecDepth 65536 in
theorem w_c15 : (Jvm.Cond.code ({ cls := "java/lang/StringLatin1", name := "canEncode", desc := "(I)Z" } : Jvm.MethodName) jdk_43_method_4_code (1 : Nat) (Option.some Jvm.ClassFile.FieldType.boolean)).before args0 about1 = true := code_word (m := ⟨10, 2⟩) (meth := k10m2) (c := k10c2) (by decide +kernel) rfl rfl rfl (by decide +kernel)
set_option maxRecDepth 65536 in
theorem w_c16 : (Jvm.Cond.code ({ cls := "java/lang/Math", name := "max", desc := "(II)I" } : Jvm.MethodName) jdk_29_method_65_code (2 : Nat) (Option.some Jvm.ClassFile.FieldType.int)).before args0 about1 = true := code_word (m := ⟨11, 1⟩) (meth := k11m1) (c := k11c1) (by decide +kernel) rfl rfl rfl (by decide +kernel)
set_option maxRecDepth 65536 in
theorem w_c17 : (Jvm.Cond.code ({ cls := "java/lang/Math", name := "min", desc := "(II)I" } : Jvm.MethodName) jdk_29_method_69_code (2 : Nat) (Option.some Jvm.ClassFile.FieldType.int)).before args0 about1 = true := code_word (m := ⟨11, 2⟩) (meth := k11m2) (c := k11c2) (by decide +kernel) rfl rfl rfl (by decide +kernel)
set_option maxRecDepth 65536 in
theorem w_c18 : (Jvm.Cond.code ({ cls := "java/lang/StringLatin1", name := "indexOfChar", desc := "([BIII)I" } : Jvm.MethodName) jdk_43_method_23_code (6 : Nat) (Option.some Jvm.ClassFile.FieldType.int)).before args0 about1 = true := code_word (m := ⟨10, 4⟩) (meth := k10m4) (c := k10c4) (by decide +kernel) rfl rfl rfl (by decide +kernel)
set_option maxRecDepth 65536 in
theorem w_c19 : (Jvm.Cond.code ({ cls := "java/lang/String", name := "substring", desc := "(II)Ljava/lang/String;" } : Jvm.MethodName) jdk_42_method_92_code (5 : Nat) (Option.some (Jvm.ClassFile.FieldType.object "java/lang/String"))).before args0 about1 = true := code_word (m := ⟨7, 6⟩) (meth := k7m6) (c := k7c6) (by decide +kernel) rfl rfl rfl (by decide +kernel)
set_option maxRecDepth 65536 in
theorem w_c20 : (Jvm.Cond.code ({ cls := "java/lang/String", name := "checkBoundsBeginEnd", desc := "(III)V" } : Jvm.MethodName) jdk_42_method_158_code (3 : Nat) (Option.none : Option Jvm.ClassFile.FieldType)).before args0 about1 = true := code_word (m := ⟨7, 14⟩) (meth := k7m14) (c := k7c14) (by decide +kernel) rfl rfl rfl (by decide +kernel)
set_option maxRecDepth 65536 in
theorem w_c21 : (Jvm.Cond.code ({ cls := "jdk/internal/util/Preconditions", name := "checkFromToIndex", desc := "(IIILjava/util/function/BiFunction;)I" } : Jvm.MethodName) jdk_41_method_12_code (4 : Nat) (Option.some Jvm.ClassFile.FieldType.int)).before args0 about1 = true := code_word (m := ⟨12, 2⟩) (meth := k12m2) (c := k12c2) (by decide +kernel) rfl rfl rfl (by decide +kernel)
set_option maxRecDepth 65536 in
theorem w_c22 : (Jvm.Cond.code ({ cls := "java/lang/StringLatin1", name := "newString", desc := "([BII)Ljava/lang/String;" } : Jvm.MethodName) jdk_43_method_47_code (3 : Nat) (Option.some (Jvm.ClassFile.FieldType.object "java/lang/String"))).before args0 about1 = true := code_word (m := ⟨10, 7⟩) (meth := k10m7) (c := k10c7) (by decide +kernel) rfl rfl rfl (by decide +kernel)
set_option maxRecDepth 65536 in
theorem w_c23 : (Jvm.Cond.code ({ cls := "java/lang/String", name := "trim", desc := "()Ljava/lang/String;" } : Jvm.MethodName) jdk_42_method_113_code (2 : Nat) (Option.some (Jvm.ClassFile.FieldType.object "java/lang/String"))).before args0 about1 = true := code_word (m := ⟨7, 8⟩) (meth := k7m8) (c := k7c8) (by decide +kernel) rfl rfl rfl (by decide +kernel)
set_option maxRecDepth 65536 in
theorem w_c24 : (Jvm.Cond.code ({ cls := "java/lang/StringLatin1", name := "trim", desc := "([B)Ljava/lang/String;" } : Jvm.MethodName) jdk_43_method_36_code (3 : Nat) (Option.some (Jvm.ClassFile.FieldType.object "java/lang/String"))).before args0 about1 = true := code_word (m := ⟨10, 6⟩) (meth := k10m6) (c := k10c6) (by decide +kernel) rfl rfl rfl (by decide +kernel)
set_option maxRecDepth 65536 in
theorem w_c25 : (Jvm.Cond.code ({ cls := "java/lang/String", name := "toLowerCase", desc := "(Ljava/util/Locale;)Ljava/lang/String;" } : Jvm.MethodName) jdk_42_method_109_code (2 : Nat) (Option.some (Jvm.ClassFile.FieldType.object "java/lang/String"))).before args0 about1 = true := code_word (m := ⟨7, 7⟩) (meth := k7m7) (c := k7c7) (by decide +kernel) rfl rfl rfl (by decide +kernel)
set_option maxRecDepth 65536 in
theorem w_c26 : (Jvm.Cond.code ({ cls := "java/lang/StringLatin1", name := "toLowerCase", desc := "(Ljava/lang/String;[BLjava/util/Locale;)Ljava/lang/String;" } : Jvm.MethodName) jdk_43_method_32_code (9 : Nat) (Option.some (Jvm.ClassFile.FieldType.object "java/lang/String"))).before args0 about1 = true := code_word (m := ⟨10, 5⟩) (meth := k10m5) (c := k10c5) (by decide +kernel) rfl rfl rfl (by decide +kernel)
set_option maxRecDepth 65536 in
theorem w_c27 : (Jvm.Cond.code ({ cls := "com/example/postil/postil/server/HeaderFieldsMediaTypePinLaw", name := "at", desc := "(Ljava/lang/String;II[CI)Z" } : Jvm.MethodName) method_4_code (5 : Nat) (Option.some Jvm.ClassFile.FieldType.boolean)).before args0 about1 = true := code_word (m := ⟨1, 3⟩) (meth := k1m3) (c := k1c3) (by decide +kernel) rfl rfl rfl (by decide +kernel)
set_option maxRecDepth 65536 in
theorem w_c28 : (Jvm.Cond.code ({ cls := "java/util/Arrays", name := "copyOfRange", desc := "([BII)[B" } : Jvm.MethodName) jdk_65_method_132_code (3 : Nat) (Option.some (Jvm.ClassFile.FieldType.array Jvm.ClassFile.FieldType.byte))).before args0 about1 = true := code_word (m := ⟨15, 2⟩) (meth := k15m2) (c := k15c2) (by decide +kernel) rfl rfl rfl (by decide +kernel)
set_option maxRecDepth 65536 in
theorem w_c29 : (Jvm.Cond.code ({ cls := "java/util/Arrays", name := "copyOfRangeByte", desc := "([BII)[B" } : Jvm.MethodName) jdk_65_method_133_code (5 : Nat) (Option.some (Jvm.ClassFile.FieldType.array Jvm.ClassFile.FieldType.byte))).before args0 about1 = true := code_word (m := ⟨15, 3⟩) (meth := k15m3) (c := k15c3) (by decide +kernel) rfl rfl rfl (by decide +kernel)
set_option maxRecDepth 65536 in
theorem w_c30 : (Jvm.Cond.code ({ cls := "java/util/Arrays", name := "checkLength", desc := "(II)V" } : Jvm.MethodName) jdk_65_method_131_code (2 : Nat) (Option.none : Option Jvm.ClassFile.FieldType)).before args0 about1 = true := code_word (m := ⟨15, 1⟩) (meth := k15m1) (c := k15c1) (by decide +kernel) rfl rfl rfl (by decide +kernel)
set_option maxRecDepth 65536 in
theorem w_c31 : (Jvm.Cond.code ({ cls := "java/lang/String", name := "<init>", desc := "([BB)V" } : Jvm.MethodName) jdk_42_method_151_code (3 : Nat) (Option.none : Option Jvm.ClassFile.FieldType)).before args0 about1 = true := code_word (m := ⟨7, 10⟩) (meth := k7m10) (c := k7c10) (by decide +kernel) rfl rfl rfl (by decide +kernel)
set_option maxRecDepth 65536 in
theorem w_c32 : (Jvm.Cond.code ({ cls := "java/lang/CharacterDataLatin1", name := "toLowerCase", desc := "(I)I" } : Jvm.MethodName) jdk_116_method_20_code (3 : Nat) (Option.some Jvm.ClassFile.FieldType.int)).before args0 about1 = true := code_word (m := ⟨18, 0⟩) (meth := k18m0) (c := k18c0) (by decide +kernel) rfl rfl rfl (by decide +kernel)
set_option maxRecDepth 65536 in
theorem w_c33 : (Jvm.Cond.code ({ cls := "java/lang/String", name := "charAt", desc := "(I)C" } : Jvm.MethodName) jdk_42_method_56_code (2 : Nat) (Option.some Jvm.ClassFile.FieldType.char)).before args0 about1 = true := code_word (m := ⟨7, 3⟩) (meth := k7m3) (c := k7c3) (by decide +kernel) rfl rfl rfl (by decide +kernel)
set_option maxRecDepth 65536 in
theorem w_c34 : (Jvm.Cond.code ({ cls := "java/lang/StringLatin1", name := "charAt", desc := "([BI)C" } : Jvm.MethodName) jdk_43_method_2_code (2 : Nat) (Option.some Jvm.ClassFile.FieldType.char)).before args0 about1 = true := code_word (m := ⟨10, 1⟩) (meth := k10m1) (c := k10c1) (by decide +kernel) rfl rfl rfl (by decide +kernel)
set_option maxRecDepth 65536 in
theorem w_c35 : (Jvm.Cond.code ({ cls := "java/lang/String", name := "checkIndex", desc := "(II)V" } : Jvm.MethodName) jdk_42_method_155_code (2 : Nat) (Option.none : Option Jvm.ClassFile.FieldType)).before args0 about1 = true := code_word (m := ⟨7, 13⟩) (meth := k7m13) (c := k7c13) (by decide +kernel) rfl rfl rfl (by decide +kernel)
set_option maxRecDepth 65536 in
theorem w_c36 : (Jvm.Cond.code ({ cls := "jdk/internal/util/Preconditions", name := "checkIndex", desc := "(IILjava/util/function/BiFunction;)I" } : Jvm.MethodName) jdk_41_method_11_code (3 : Nat) (Option.some Jvm.ClassFile.FieldType.int)).before args0 about1 = true := code_word (m := ⟨12, 1⟩) (meth := k12m1) (c := k12c1) (by decide +kernel) rfl rfl rfl (by decide +kernel)
set_option maxRecDepth 65536 in
theorem w_c37 : (Jvm.Cond.code ({ cls := "com/example/postil/postil/server/HeaderFieldsMediaTypePinLaw", name := "lower", desc := "(C)C" } : Jvm.MethodName) method_3_code (1 : Nat) (Option.some Jvm.ClassFile.FieldType.char)).before args0 about1 = true := code_word (m := ⟨1, 2⟩) (meth := k1m2) (c := k1c2) (by decide +kernel) rfl rfl rfl (by decide +kernel)
set_option maxRecDepth 65536 in
theorem w_c38 : (Jvm.Cond.code ({ cls := "java/util/Locale", name := "getLanguage", desc := "()Ljava/lang/String;" } : Jvm.MethodName) jdk_2628_method_27_code (1 : Nat) (Option.some (Jvm.ClassFile.FieldType.object "java/lang/String"))).before args0 about1 = true := code_word (m := ⟨14, 0⟩) (meth := k14m0) (c := k14c0) (by decide +kernel) rfl rfl rfl (by decide +kernel)
set_option maxRecDepth 65536 in
theorem w_c39 : (Jvm.Cond.code ({ cls := "sun/util/locale/BaseLocale", name := "getLanguage", desc := "()Ljava/lang/String;" } : Jvm.MethodName) jdk_3003_method_5_code (1 : Nat) (Option.some (Jvm.ClassFile.FieldType.object "java/lang/String"))).before args0 about1 = true := code_word (m := ⟨19, 0⟩) (meth := k19m0) (c := k19c0) (by decide +kernel) rfl rfl rfl (by decide +kernel)
def codes1 : List Jvm.Cond := [Jvm.Cond.code x code maxLocals ret, Jvm.Cond.code ({ cls := "com/example/postil/postil/server/HeaderFieldsMediaTypePinLaw", name := "draw", desc := "(I)C" } : Jvm.MethodName) method_2_code (2 : Nat) (Option.some Jvm.ClassFile.FieldType.char), Jvm.Cond.code ({ cls := "java/lang/String", name := "<init>", desc := "([C)V" } : Jvm.MethodName) jdk_42_method_3_code (2 : Nat) (Option.none : Option Jvm.ClassFile.FieldType), Jvm.Cond.code ({ cls := "java/lang/String", name := "<init>", desc := "([CIILjava/lang/Void;)V" } : Jvm.MethodName) jdk_42_method_149_code (6 : Nat) (Option.none : Option Jvm.ClassFile.FieldType), Jvm.Cond.code ({ cls := "java/lang/Object", name := "<init>", desc := "()V" } : Jvm.MethodName) object_method_1_code (1 : Nat) (Option.none : Option Jvm.ClassFile.FieldType), Jvm.Cond.code ({ cls := "java/lang/StringUTF16", name := "compress", desc := "([CII)[B" } : Jvm.MethodName) jdk_52_method_16_code (6 : Nat) (Option.some (Jvm.ClassFile.FieldType.array Jvm.ClassFile.FieldType.byte)), Jvm.Cond.code ({ cls := "java/lang/StringUTF16", name := "compress", desc := "([CI[BII)I" } : Jvm.MethodName) jdk_52_method_21_code (7 : Nat) (Option.some Jvm.ClassFile.FieldType.int), Jvm.Cond.code ({ cls := "java/lang/StringUTF16", name := "coderFromArrayLen", desc := "([BI)B" } : Jvm.MethodName) jdk_52_method_15_code (2 : Nat) (Option.some Jvm.ClassFile.FieldType.byte), Jvm.Cond.code ({ cls := "com/example/postil/postil/server/HeaderFields", name := "mediaType", desc := "(Ljava/lang/String;)Ljava/lang/String;" } : Jvm.MethodName) prog_10_method_5_code (2 : Nat) (Option.some (Jvm.ClassFile.FieldType.object "java/lang/String")), Jvm.Cond.code ({ cls := "java/lang/String", name := "indexOf", desc := "(I)I" } : Jvm.MethodName) jdk_42_method_79_code (2 : Nat) (Option.some Jvm.ClassFile.FieldType.int), Jvm.Cond.code ({ cls := "java/lang/String", name := "indexOf", desc := "(II)I" } : Jvm.MethodName) jdk_42_method_80_code (3 : Nat) (Option.some Jvm.ClassFile.FieldType.int), Jvm.Cond.code ({ cls := "java/lang/String", name := "isLatin1", desc := "()Z" } : Jvm.MethodName) jdk_42_method_154_code (1 : Nat) (Option.some Jvm.ClassFile.FieldType.boolean), Jvm.Cond.code ({ cls := "java/lang/String", name := "length", desc := "()I" } : Jvm.MethodName) jdk_42_method_54_code (1 : Nat) (Option.some Jvm.ClassFile.FieldType.int), Jvm.Cond.code ({ cls := "java/lang/String", name := "coder", desc := "()B" } : Jvm.MethodName) jdk_42_method_152_code (1 : Nat) (Option.some Jvm.ClassFile.FieldType.byte), Jvm.Cond.code ({ cls := "java/lang/StringLatin1", name := "indexOf", desc := "([BIII)I" } : Jvm.MethodName) jdk_43_method_22_code (4 : Nat) (Option.some Jvm.ClassFile.FieldType.int), Jvm.Cond.code ({ cls := "java/lang/StringLatin1", name := "canEncode", desc := "(I)Z" } : Jvm.MethodName) jdk_43_method_4_code (1 : Nat) (Option.some Jvm.ClassFile.FieldType.boolean), Jvm.Cond.code ({ cls := "java/lang/Math", name := "max", desc := "(II)I" } : Jvm.MethodName) jdk_29_method_65_code (2 : Nat) (Option.some Jvm.ClassFile.FieldType.int), Jvm.Cond.code ({ cls := "java/lang/Math", name := "min", desc := "(II)I" } : Jvm.MethodName) jdk_29_method_69_code (2 : Nat) (Option.some Jvm.ClassFile.FieldType.int), Jvm.Cond.code ({ cls := "java/lang/StringLatin1", name := "indexOfChar", desc := "([BIII)I" } : Jvm.MethodName) jdk_43_method_23_code (6 : Nat) (Option.some Jvm.ClassFile.FieldType.int), Jvm.Cond.code ({ cls := "java/lang/String", name := "substring", desc := "(II)Ljava/lang/String;" } : Jvm.MethodName) jdk_42_method_92_code (5 : Nat) (Option.some (Jvm.ClassFile.FieldType.object "java/lang/String")), Jvm.Cond.code ({ cls := "java/lang/String", name := "checkBoundsBeginEnd", desc := "(III)V" } : Jvm.MethodName) jdk_42_method_158_code (3 : Nat) (Option.none : Option Jvm.ClassFile.FieldType), Jvm.Cond.code ({ cls := "jdk/internal/util/Preconditions", name := "checkFromToIndex", desc := "(IIILjava/util/function/BiFunction;)I" } : Jvm.MethodName) jdk_41_method_12_code (4 : Nat) (Option.some Jvm.ClassFile.FieldType.int), Jvm.Cond.code ({ cls := "java/lang/StringLatin1", name := "newString", desc := "([BII)Ljava/lang/String;" } : Jvm.MethodName) jdk_43_method_47_code (3 : Nat) (Option.some (Jvm.ClassFile.FieldType.object "java/lang/String")), Jvm.Cond.code ({ cls := "java/lang/String", name := "trim", desc := "()Ljava/lang/String;" } : Jvm.MethodName) jdk_42_method_113_code (2 : Nat) (Option.some (Jvm.ClassFile.FieldType.object "java/lang/String")), Jvm.Cond.code ({ cls := "java/lang/StringLatin1", name := "trim", desc := "([B)Ljava/lang/String;" } : Jvm.MethodName) jdk_43_method_36_code (3 : Nat) (Option.some (Jvm.ClassFile.FieldType.object "java/lang/String")), Jvm.Cond.code ({ cls := "java/lang/String", name := "toLowerCase", desc := "(Ljava/util/Locale;)Ljava/lang/String;" } : Jvm.MethodName) jdk_42_method_109_code (2 : Nat) (Option.some (Jvm.ClassFile.FieldType.object "java/lang/String")), Jvm.Cond.code ({ cls := "java/lang/StringLatin1", name := "toLowerCase", desc := "(Ljava/lang/String;[BLjava/util/Locale;)Ljava/lang/String;" } : Jvm.MethodName) jdk_43_method_32_code (9 : Nat) (Option.some (Jvm.ClassFile.FieldType.object "java/lang/String")), Jvm.Cond.code ({ cls := "com/example/postil/postil/server/HeaderFieldsMediaTypePinLaw", name := "at", desc := "(Ljava/lang/String;II[CI)Z" } : Jvm.MethodName) method_4_code (5 : Nat) (Option.some Jvm.ClassFile.FieldType.boolean), Jvm.Cond.code ({ cls := "java/util/Arrays", name := "copyOfRange", desc := "([BII)[B" } : Jvm.MethodName) jdk_65_method_132_code (3 : Nat) (Option.some (Jvm.ClassFile.FieldType.array Jvm.ClassFile.FieldType.byte)), Jvm.Cond.code ({ cls := "java/util/Arrays", name := "copyOfRangeByte", desc := "([BII)[B" } : Jvm.MethodName) jdk_65_method_133_code (5 : Nat) (Option.some (Jvm.ClassFile.FieldType.array Jvm.ClassFile.FieldType.byte)), Jvm.Cond.code ({ cls := "java/util/Arrays", name := "checkLength", desc := "(II)V" } : Jvm.MethodName) jdk_65_method_131_code (2 : Nat) (Option.none : Option Jvm.ClassFile.FieldType), Jvm.Cond.code ({ cls := "java/lang/String", name := "<init>", desc := "([BB)V" } : Jvm.MethodName) jdk_42_method_151_code (3 : Nat) (Option.none : Option Jvm.ClassFile.FieldType), Jvm.Cond.code ({ cls := "java/lang/CharacterDataLatin1", name := "toLowerCase", desc := "(I)I" } : Jvm.MethodName) jdk_116_method_20_code (3 : Nat) (Option.some Jvm.ClassFile.FieldType.int), Jvm.Cond.code ({ cls := "java/lang/String", name := "charAt", desc := "(I)C" } : Jvm.MethodName) jdk_42_method_56_code (2 : Nat) (Option.some Jvm.ClassFile.FieldType.char), Jvm.Cond.code ({ cls := "java/lang/StringLatin1", name := "charAt", desc := "([BI)C" } : Jvm.MethodName) jdk_43_method_2_code (2 : Nat) (Option.some Jvm.ClassFile.FieldType.char), Jvm.Cond.code ({ cls := "java/lang/String", name := "checkIndex", desc := "(II)V" } : Jvm.MethodName) jdk_42_method_155_code (2 : Nat) (Option.none : Option Jvm.ClassFile.FieldType), Jvm.Cond.code ({ cls := "jdk/internal/util/Preconditions", name := "checkIndex", desc := "(IILjava/util/function/BiFunction;)I" } : Jvm.MethodName) jdk_41_method_11_code (3 : Nat) (Option.some Jvm.ClassFile.FieldType.int), Jvm.Cond.code ({ cls := "com/example/postil/postil/server/HeaderFieldsMediaTypePinLaw", name := "lower", desc := "(C)C" } : Jvm.MethodName) method_3_code (1 : Nat) (Option.some Jvm.ClassFile.FieldType.char), Jvm.Cond.code ({ cls := "java/util/Locale", name := "getLanguage", desc := "()Ljava/lang/String;" } : Jvm.MethodName) jdk_2628_method_27_code (1 : Nat) (Option.some (Jvm.ClassFile.FieldType.object "java/lang/String")), Jvm.Cond.code ({ cls := "sun/util/locale/BaseLocale", name := "getLanguage", desc := "()Ljava/lang/String;" } : Jvm.MethodName) jdk_3003_method_5_code (1 : Nat) (Option.some (Jvm.ClassFile.FieldType.object "java/lang/String"))]
set_option maxRecDepth 65536 in
theorem codes_eq : words1.filter isCode = codes1 := rfl
theorem w_codes : ∀ c ∈ words1.filter isCode, c.before args0 about1 = true := by
  rw [codes_eq]
  intro c hc
  simp only [codes1, List.mem_cons, List.not_mem_nil, or_false] at hc
  rcases hc with rfl | rfl | rfl | rfl | rfl | rfl | rfl | rfl | rfl | rfl | rfl | rfl | rfl | rfl | rfl | rfl | rfl | rfl | rfl | rfl | rfl | rfl | rfl | rfl | rfl | rfl | rfl | rfl | rfl | rfl | rfl | rfl | rfl | rfl | rfl | rfl | rfl | rfl | rfl | rfl
  · exact w_c0
  · exact w_c1
  · exact w_c2
  · exact w_c3
  · exact w_c4
  · exact w_c5
  · exact w_c6
  · exact w_c7
  · exact w_c8
  · exact w_c9
  · exact w_c10
  · exact w_c11
  · exact w_c12
  · exact w_c13
  · exact w_c14
  · exact w_c15
  · exact w_c16
  · exact w_c17
  · exact w_c18
  · exact w_c19
  · exact w_c20
  · exact w_c21
  · exact w_c22
  · exact w_c23
  · exact w_c24
  · exact w_c25
  · exact w_c26
  · exact w_c27
  · exact w_c28
  · exact w_c29
  · exact w_c30
  · exact w_c31
  · exact w_c32
  · exact w_c33
  · exact w_c34
  · exact w_c35
  · exact w_c36
  · exact w_c37
  · exact w_c38
  · exact w_c39
set_option maxRecDepth 65536 in
theorem w_t1 : (words1.take 24).all (fun c => isCode c || c.before args0 about1) = true := by decide +kernel
set_option maxRecDepth 65536 in
theorem w_t2 : ((words1.drop 24).take 24).all (fun c => isCode c || c.before args0 about1) = true := by decide +kernel
set_option maxRecDepth 65536 in
theorem w_t3 : (((words1.drop 24).drop 24).take 24).all (fun c => isCode c || c.before args0 about1) = true := by decide +kernel
set_option maxRecDepth 65536 in
theorem w_t4 : ((((words1.drop 24).drop 24).drop 24).take 24).all (fun c => isCode c || c.before args0 about1) = true := by decide +kernel
set_option maxRecDepth 65536 in
theorem w_t5 : (((((words1.drop 24).drop 24).drop 24).drop 24).take 24).all (fun c => isCode c || c.before args0 about1) = true := by decide +kernel
set_option maxRecDepth 65536 in
theorem w_t6 : ((((((words1.drop 24).drop 24).drop 24).drop 24).drop 24).take 24).all (fun c => isCode c || c.before args0 about1) = true := by decide +kernel
set_option maxRecDepth 65536 in
theorem w_t7 : (((((((words1.drop 24).drop 24).drop 24).drop 24).drop 24).drop 24).take 24).all (fun c => isCode c || c.before args0 about1) = true := by decide +kernel
set_option maxRecDepth 65536 in
theorem w_t8 : (((((((words1.drop 24).drop 24).drop 24).drop 24).drop 24).drop 24).drop 24).all (fun c => isCode c || c.before args0 about1) = true := by decide +kernel
theorem w_tables : (allAtoms (Jvm.Cond.code x code maxLocals ret :: tables_1)).before args0 about1 = true := by
  rw [allAtoms_all]
  show words1.all (fun c => c.before args0 about1) = true
  refine all_split ?_ w_codes
  rw [← List.take_append_drop 24 words1, List.all_append, w_t1, ← List.take_append_drop 24 (words1.drop 24), List.all_append, w_t2, ← List.take_append_drop 24 ((words1.drop 24).drop 24), List.all_append, w_t3, ← List.take_append_drop 24 (((words1.drop 24).drop 24).drop 24), List.all_append, w_t4, ← List.take_append_drop 24 ((((words1.drop 24).drop 24).drop 24).drop 24), List.all_append, w_t5, ← List.take_append_drop 24 (((((words1.drop 24).drop 24).drop 24).drop 24).drop 24), List.all_append, w_t6, ← List.take_append_drop 24 ((((((words1.drop 24).drop 24).drop 24).drop 24).drop 24).drop 24), List.all_append, w_t7, w_t8]
  rfl
set_option maxRecDepth 65536 in
theorem w_rest : rest_1_c.before args0 about1 = true := by decide +kernel
set_option maxRecDepth 65536 in
theorem w_case : (Jvm.Cond.and given_1 narrow_1).before args0 about1 = true := by decide +kernel
set_option maxRecDepth 65536 in
theorem w_consts : constsHeld consts_1 about1 := Jvm.Lit.constsHeldB_iff.mp (by decide +kernel)
theorem w_applies : (headSpec (Jvm.Cond.code x code maxLocals ret :: tables_1) room_1).applies x e0.platform about1 = true :=
  (Spec.applies_iff w_frames).mpr ⟨w_running, w_runnable, w_alone, w_named, w_hears, w_ripe, w_room, w_tables⟩
theorem atStart : AtStart classFile x code maxLocals ret World_1 tables_1 room_1 Calls_1 rest_1 Pre_1 launch0 p0 e0 about1 theMethod args0 below0 :=
  ⟨lists_1, trivial, launch0.admits_env _ _ _, launch0.least_env, fairChoices_fair.cas, fairChoices_fair.clock, w_frames, w_args, w_heap, w_applies, ⟨w_consts, trivial⟩, w_rest, w_case⟩
end start1
theorem witness_1 : WitnessClaimed_1 := ⟨start1.p0, start1.e0, start1.about1, start1.theMethod, start1.args0, start1.below0, start1.atStart⟩
end Jvm.Pilot.@@N@@
