import JvmDerived
import JvmDerived.Pilot.@@N@@Statement
import JvmDerived.Pilot.@@N@@Code
set_option linter.unusedVariables false
set_option linter.unusedSimpArgs false
@@BLOCK:NumsL.lean.txt@@
/- laws to paste: Road.backV (cut by pick.py; bodies as the Statement names them) -/
namespace Jvm.Pilot.@@N@@
namespace StrChars
open Jvm Sem ClassFile Op Lib Jvm.Stand Jvm.Free.XT Jvm.Free.ALB Jvm.Free.JM Jvm.Free
open Jvm.Lib.Cold (StaticIs)
/-- a char array whose places are chars -/
def Ch (a : Addr) (A : Cell) (U : State) : Prop := Arr .char a A U ∧ Typed .char A
theorem Ch.mv {a : Addr} {A : Cell} {U U' : State} (h : Ch a A U) (hal : U.vm.Alike U'.vm) (hh : U'.heap = U.heap) : Ch a A U' := ⟨h.1.mv hal hh, h.2⟩
theorem Ch.keep {a : Addr} {A : Cell} {U U' : State} (h : Ch a A U) (hal : U.vm.Alike U'.vm) (hk : U'.heap[a]? = some A) : Ch a A U' := ⟨h.1.keep hal hk, h.2⟩
/-- what place i of a char[]'s cell holds -/
def cv (A : Cell) (i : Nat) : Int32 := match A.slots[i]? with | some (.int x) => x | _ => 0
theorem Ch.get {a : Addr} {A : Cell} {U : State} (h : Ch a A U) {i : Nat} (hi : i < A.slots.size) : A.slots[i]? = some (.int (cv A i)) := by
  have e := Array.getElem?_eq_getElem hi
  have f := h.2 i _ e
  unfold cv; rw [e]
  generalize A.slots[i] = v at f
  cases v <;> simp [fits] at f ⊢
/-- the byte that i2b leaves of a char -/
def lo8 (x : Int32) : Int32 := x.toInt8.toInt32
theorem fits_lo8 (y : Int32) : fits .byte (.int (lo8 y)) = true := by
  have h1 := y.toInt8.le_toInt
  have h2 := y.toInt8.toInt_lt
  simp only [lo8, fits, Bool.and_eq_true, decide_eq_true_eq, Int32.le_iff_toInt_le, Int8.toInt_toInt32, show (-128 : Int32).toInt = -128 from by decide, show (127 : Int32).toInt = 127 from by decide]
  omega
/-- A' is A but that each place j of lo .. hi - 1 holds f j -/
def Laid (A A' : Cell) (lo hi : Nat) (f : Nat → Value) : Prop := A'.cls = A.cls ∧ A'.vm = A.vm ∧ A'.slots.size = A.slots.size ∧ ∀ i, A'.slots[i]? = if lo ≤ i ∧ i < hi then some (f i) else A.slots[i]?
theorem Laid.zero (A : Cell) (lo : Nat) (f : Nat → Value) : Laid A A lo (lo + 0) f := ⟨rfl, rfl, rfl, fun i => by rw [if_neg (by omega)]⟩
theorem Laid.step {A Ak : Cell} {lo k : Nat} {f : Nat → Value} {v : Value} (h : Laid A Ak lo k f) (hlo : lo ≤ k) (hk : k < Ak.slots.size) (hv : v = f k) : Laid A (Ak.setSlot k v) lo (k + 1) f := by
  refine ⟨h.1, h.2.1, by simpa [Cell.setSlot] using h.2.2.1, fun i => ?_⟩
  by_cases e : k = i
  · subst e; rw [Cell.slots_setSlot_self v hk, if_pos (by omega), hv]
  · rw [Cell.slots_setSlot_ne v e, h.2.2.2 i]
    by_cases q : lo ≤ i ∧ i < k
    · rw [if_pos q, if_pos (by omega)]
    · rw [if_neg q, if_neg (by omega)]
def U16 : String := "java/lang/StringUTF16"
namespace Cmp5
def yN : MethodName := ⟨"java/lang/StringUTF16", "compress", "([CI[BII)I"⟩
abbrev yB : ByteArray := jdk_52_method_21_code
theorem d0 : decode yB 0 = .ok (.iconst 0, 1) := by decide +kernel
theorem d1 : decode yB 1 = .ok (.istore 5, 2) := by decide +kernel
theorem d3 : decode yB 3 = .ok (.iload 5, 2) := by decide +kernel
theorem d5 : decode yB 5 = .ok (.iload 4, 2) := by decide +kernel
theorem d7 : decode yB 7 = .ok (.if_icmp (.ge) 37, 3) := by decide +kernel
theorem d10 : decode yB 10 = .ok (.aload_n 0, 1) := by decide +kernel
theorem d11 : decode yB 11 = .ok (.iload_n 1, 1) := by decide +kernel
theorem d12 : decode yB 12 = .ok (.caload, 1) := by decide +kernel
theorem d13 : decode yB 13 = .ok (.istore 6, 2) := by decide +kernel
theorem d15 : decode yB 15 = .ok (.iload 6, 2) := by decide +kernel
theorem d17 : decode yB 17 = .ok (.sipush 255, 3) := by decide +kernel
theorem d20 : decode yB 20 = .ok (.if_icmp (.le) 6, 3) := by decide +kernel
theorem d26 : decode yB 26 = .ok (.aload_n 2, 1) := by decide +kernel
theorem d27 : decode yB 27 = .ok (.iload_n 3, 1) := by decide +kernel
theorem d28 : decode yB 28 = .ok (.iload 6, 2) := by decide +kernel
theorem d30 : decode yB 30 = .ok (.i2b, 1) := by decide +kernel
theorem d31 : decode yB 31 = .ok (.bastore, 1) := by decide +kernel
theorem d32 : decode yB 32 = .ok (.iinc 1 1, 3) := by decide +kernel
theorem d35 : decode yB 35 = .ok (.iinc 3 1, 3) := by decide +kernel
theorem d38 : decode yB 38 = .ok (.iinc 5 1, 3) := by decide +kernel
theorem d41 : decode yB 41 = .ok (.goto (-38), 3) := by decide +kernel
theorem d44 : decode yB 44 = .ok (.iload 4, 2) := by decide +kernel
theorem d46 : decode yB 46 = .ok (.ireturn, 1) := by decide +kernel
def site : List Cond := []
def tab : Cond := tabOf yN yB 7 (some .int) site
def P (b : Addr) (A : Cell) (d : Addr) (B : Cell) (o q len : Nat) (args : Array Value) (s : State) : Prop := args = #[.ref b, .int (Int32.ofNat o), .ref d, .int (Int32.ofNat q), .int (Int32.ofNat len)] ∧ Ch b A s ∧ Arr .byte d B s ∧ b ≠ d ∧ o + len ≤ A.slots.size ∧ q + len ≤ B.slots.size ∧ ∀ i, i < len → ¬ 255 < cv A (o + i)
def E (b : Addr) (A : Cell) (d : Addr) (B : Cell) (o q len : Nat) (r : Option Value) (s u : State) : Prop := r = some (.int (Int32.ofNat len)) ∧ ∃ B', Put d B' s u ∧ Laid B B' q (q + len) (fun j => Value.int (lo8 (cv A (o + (j - q)))))
/-- no char of the range above 255: len; the places written hold each char's low byte -/
theorem law (l : Launch) (b : Addr) (A : Cell) (d : Addr) (B : Cell) (o q len : Nat) : Law l yN 5 5 0 0 yB 7 (some .int) site (P b A d B o q len) (E b A d B o q len) (copyLocs d q len) 0 0 := by
  refine Law.of_walk (plainFor_of_name (by decide +kernel)) (by decide +kernel) (by decide +kernel) (by decide) (fun _ _ h => by rw [h.1]; rfl) (fun _ U U' hal hh h => ⟨h.1, h.2.1.mv hal hh, h.2.2.1.mv hal hh, h.2.2.2⟩) (fun r U U' V V' h1 hal h2 h => ⟨h.1, h.2.elim fun B' q => ⟨B', q.1.mv h1 h2, q.2⟩⟩) ?_
  intro p e s m args below meth c s₁ X0 hexec hbytes hml hret hlk hnm hown hh0 W hP
  obtain ⟨rfl, hA, hB, hne, l1, l2, hp⟩ := hP
  have c1 : Steps p.tables e below (s₁.setTop (entryFrame m #[.ref b, .int (Int32.ofNat o), .ref d, .int (Int32.ofNat q), .int (Int32.ofNat len)] 7)) (s₁.setTop (mkF m 0 #[.val (.ref b), .val (.int (Int32.ofNat o)), .val (.ref d), .val (.int (Int32.ofNat q)), .val (.int (Int32.ofNat len)), .unset, .unset] [])) := entry rfl
  have hA0 := hA.1.mv X0.warmed.alike hh0
  have hB0 := hB.mv X0.warmed.alike hh0
  have a31 := hA.1.2.2.2
  have c2 : Steps p.tables e below (s₁.setTop (entryFrame m #[.ref b, .int (Int32.ofNat o), .ref d, .int (Int32.ofNat q), .int (Int32.ofNat len)] 7)) (s₁.setTop (mkF m 3 #[.val (.ref b), .val (.int (Int32.ofNat o)), .val (.ref d), .val (.int (Int32.ofNat q)), .val (.int (Int32.ofNat len)), .val (.int 0), .unset] [])) := c1.trans (by
    refine iconstV X0.here hexec rfl 0 (hb hbytes d0) (by decide) ?_
    refine XS.istore X0.here hexec rfl (hb hbytes d1) rfl rfl ?_
    exact Steps.refl _)
  have loop : ∀ (r i : Nat), i + r = len → ∀ (z : Slot), (z = .unset ∨ ∃ w, z = .val w ∧ w.category = 1) → ∀ (Tl : State) (Bk : Cell), Stand p l e { frames := 0, locals := 0, cells := 0, slots := 0 } s m #[.ref b, .int (Int32.ofNat o), .ref d, .int (Int32.ofNat q), .int (Int32.ofNat len)] below meth c Tl ([] ++ copyLocs d q i) 0 0 → Put d Bk s₁ Tl → Laid B Bk q (q + i) (fun j => Value.int (lo8 (cv A (o + (j - q))))) →
      Steps p.tables e below (s₁.setTop (entryFrame m #[.ref b, .int (Int32.ofNat o), .ref d, .int (Int32.ofNat q), .int (Int32.ofNat len)] 7)) (Tl.setTop (mkF m 3 #[.val (.ref b), .val (.int (Int32.ofNat (o + i))), .val (.ref d), .val (.int (Int32.ofNat (q + i))), .val (.int (Int32.ofNat len)), .val (.int (Int32.ofNat i)), z] [])) → ∃ (T' : State) (B' : Cell) (z' : Slot), Stand p l e { frames := 0, locals := 0, cells := 0, slots := 0 } s m #[.ref b, .int (Int32.ofNat o), .ref d, .int (Int32.ofNat q), .int (Int32.ofNat len)] below meth c T' ([] ++ copyLocs d q len) 0 0 ∧ Put d B' s₁ T' ∧ Laid B B' q (q + len) (fun j => Value.int (lo8 (cv A (o + (j - q))))) ∧
      Steps p.tables e below (s₁.setTop (entryFrame m #[.ref b, .int (Int32.ofNat o), .ref d, .int (Int32.ofNat q), .int (Int32.ofNat len)] 7)) (T'.setTop (mkF m 3 #[.val (.ref b), .val (.int (Int32.ofNat (o + len))), .val (.ref d), .val (.int (Int32.ofNat (q + len))), .val (.int (Int32.ofNat len)), .val (.int (Int32.ofNat len)), z'] [])) := by
    intro r
    induction r with
    | zero =>
      intro i hi z hz Tl Bk Xl pl fl cl
      have hil : i = len := by omega
      rw [hil] at Xl fl cl
      exact ⟨Tl, Bk, z, Xl, pl, fl, cl⟩
    | succ r ih =>
      intro i hi z hz Tl Bk Xl pl fl cl
      have all := X0.warmed.alike.symm.trans Xl.warmed.alike
      have hAl := hA0.keep all (pl.other hne hA0.1)
      have hBk := hB0.like all pl.1 fl.1 fl.2.1 fl.2.2.1
      have hlt : q + i < Bk.slots.size := by rw [fl.2.2.1]; omega
      have c3 : Steps p.tables e below (s₁.setTop (entryFrame m #[.ref b, .int (Int32.ofNat o), .ref d, .int (Int32.ofNat q), .int (Int32.ofNat len)] 7)) (Tl.setTop (mkF m 12 #[.val (.ref b), .val (.int (Int32.ofNat (o + i))), .val (.ref d), .val (.int (Int32.ofNat (q + i))), .val (.int (Int32.ofNat len)), .val (.int (Int32.ofNat i)), z] [.int (Int32.ofNat (o + i)), .ref b])) := cl.trans (by
        refine XS.iload Xl.here hexec rfl (hb hbytes d3) rfl ?_
        refine XS.iload Xl.here hexec rfl (hb hbytes d5) rfl ?_
        refine XS.icmpNo Xl.here hexec rfl (hb hbytes d7) rfl (ii_ge_f (lt32 (by omega) (by omega))) ?_
        refine XS.aloadN Xl.here hexec rfl (hb hbytes d10) rfl rfl ?_
        refine XS.iloadN Xl.here hexec rfl (hb hbytes d11) rfl ?_
        exact Steps.refl _)
      have c4 : Steps p.tables e below (s₁.setTop (entryFrame m #[.ref b, .int (Int32.ofNat o), .ref d, .int (Int32.ofNat q), .int (Int32.ofNat len)] 7)) (Tl.setTop (mkF m 13 #[.val (.ref b), .val (.int (Int32.ofNat (o + i))), .val (.ref d), .val (.int (Int32.ofNat (q + i))), .val (.int (Int32.ofNat len)), .val (.int (Int32.ofNat i)), z] [.int (cv A (o + i))])) := c3.trans (by
        refine Xl.aget hexec hAl rfl (hA.get (i := o + i) (by omega)) rfl rfl (hb hbytes d12) ?_
        exact Steps.refl _)
      have c5 : Steps p.tables e below (s₁.setTop (entryFrame m #[.ref b, .int (Int32.ofNat o), .ref d, .int (Int32.ofNat q), .int (Int32.ofNat len)] 7)) (Tl.setTop (mkF m 15 #[.val (.ref b), .val (.int (Int32.ofNat (o + i))), .val (.ref d), .val (.int (Int32.ofNat (q + i))), .val (.int (Int32.ofNat len)), .val (.int (Int32.ofNat i)), .val (.int (cv A (o + i)))] [])) := c4.trans (by
        refine XS.istoreS Xl.here hexec rfl (hb hbytes d13) rfl rfl hz ?_
        exact Steps.refl _)
      have c6 : Steps p.tables e below (s₁.setTop (entryFrame m #[.ref b, .int (Int32.ofNat o), .ref d, .int (Int32.ofNat q), .int (Int32.ofNat len)] 7)) (Tl.setTop (mkF m 31 #[.val (.ref b), .val (.int (Int32.ofNat (o + i))), .val (.ref d), .val (.int (Int32.ofNat (q + i))), .val (.int (Int32.ofNat len)), .val (.int (Int32.ofNat i)), .val (.int (cv A (o + i)))] [.int (lo8 (cv A (o + i))), .int (Int32.ofNat (q + i)), .ref d])) := c5.trans (by
        refine XS.iload Xl.here hexec rfl (hb hbytes d15) rfl ?_
        refine sipushV Xl.here hexec rfl 255 (hb hbytes d17) (by decide) ?_
        refine XS.icmpYes Xl.here hexec rfl (pc0 := 20) rfl (hb hbytes d20) rfl (ii_le_t (hp i (by omega))) (by decide) rfl ?_
        refine XS.aloadN Xl.here hexec rfl (hb hbytes d26) rfl rfl ?_
        refine XS.iloadN Xl.here hexec rfl (hb hbytes d27) rfl ?_
        refine XS.iload Xl.here hexec rfl (hb hbytes d28) rfl ?_
        refine i2b Xl.here hexec rfl (hb hbytes d30) rfl ?_
        exact Steps.refl _)
      obtain ⟨T7, X7, p7, st7⟩ := Xl.aput hexec hBk rfl hlt rfl (fits_lo8 (cv A (o + i))) (g := (mkF m 31 #[.val (.ref b), .val (.int (Int32.ofNat (o + i))), .val (.ref d), .val (.int (Int32.ofNat (q + i))), .val (.int (Int32.ofNat len)), .val (.int (Int32.ofNat i)), .val (.int (cv A (o + i)))] [.int (lo8 (cv A (o + i))), .int (Int32.ofNat (q + i)), .ref d])) rfl (rest := []) rfl (hb hbytes d31)
      have c8 : Steps p.tables e below (s₁.setTop (entryFrame m #[.ref b, .int (Int32.ofNat o), .ref d, .int (Int32.ofNat q), .int (Int32.ofNat len)] 7)) (T7.setTop (mkF m 32 #[.val (.ref b), .val (.int (Int32.ofNat (o + i))), .val (.ref d), .val (.int (Int32.ofNat (q + i))), .val (.int (Int32.ofNat len)), .val (.int (Int32.ofNat i)), .val (.int (cv A (o + i)))] [])) := c6.trans (st7 _ (Steps.refl _))
      have c9 : Steps p.tables e below (s₁.setTop (entryFrame m #[.ref b, .int (Int32.ofNat o), .ref d, .int (Int32.ofNat q), .int (Int32.ofNat len)] 7)) (T7.setTop (mkF m 3 #[.val (.ref b), .val (.int (Int32.ofNat (o + i) + 1)), .val (.ref d), .val (.int (Int32.ofNat (q + i) + 1)), .val (.int (Int32.ofNat len)), .val (.int (Int32.ofNat i + 1)), .val (.int (cv A (o + i)))] [])) := c8.trans (by
        refine iincV X7.here hexec rfl 1 (hb hbytes d32) (by decide) rfl rfl ?_
        refine iincV X7.here hexec rfl 1 (hb hbytes d35) (by decide) rfl rfl ?_
        refine iincV X7.here hexec rfl 1 (hb hbytes d38) (by decide) rfl rfl ?_
        refine XS.goto X7.here hexec rfl (pc0 := 41) rfl (hb hbytes d41) (by decide) rfl ?_
        exact Steps.refl _)
      have c10 : Steps p.tables e below (s₁.setTop (entryFrame m #[.ref b, .int (Int32.ofNat o), .ref d, .int (Int32.ofNat q), .int (Int32.ofNat len)] 7)) (T7.setTop (mkF m 3 #[.val (.ref b), .val (.int (Int32.ofNat (o + (i + 1)))), .val (.ref d), .val (.int (Int32.ofNat (q + (i + 1)))), .val (.int (Int32.ofNat len)), .val (.int (Int32.ofNat (i + 1))), .val (.int (cv A (o + i)))] [])) := by
        have := c9
        rw [succ32, succ32, succ32] at this
        exact this
      exact ih (i + 1) (by omega) _ (Or.inr ⟨_, rfl, rfl⟩) T7 _ (by rw [copyLocs_step, ← List.append_assoc]; exact X7) (pl.trans p7) (fl.step (by omega) hlt (by simp)) c10
  obtain ⟨T9, B9, z9, X9, p9, f9, g9⟩ := loop len 0 (by omega) .unset (Or.inl rfl) s₁ B (by simpa [copyLocs] using X0) ⟨hB0.1, fun _ _ => rfl, rfl⟩ (Laid.zero _ _ _) c2
  have c11 : Steps p.tables e below (s₁.setTop (entryFrame m #[.ref b, .int (Int32.ofNat o), .ref d, .int (Int32.ofNat q), .int (Int32.ofNat len)] 7)) (T9.setTop (mkF m 46 #[.val (.ref b), .val (.int (Int32.ofNat (o + len))), .val (.ref d), .val (.int (Int32.ofNat (q + len))), .val (.int (Int32.ofNat len)), .val (.int (Int32.ofNat len)), z9] [.int (Int32.ofNat len)])) := g9.trans (by
    refine XS.iload X9.here hexec rfl (hb hbytes d3) rfl ?_
    refine XS.iload X9.here hexec rfl (hb hbytes d5) rfl ?_
    refine XS.icmpYes X9.here hexec rfl (pc0 := 7) rfl (hb hbytes d7) rfl (ii_ge_t (nlt32 (by omega) (Nat.le_refl _))) (by decide) rfl ?_
    refine XS.iload X9.here hexec rfl (hb hbytes d44) rfl ?_
    exact Steps.refl _)
  exact ⟨T9, some (.int (Int32.ofNat len)), _, _, _, X9, by simp, rfl, rfl, (fun h => by cases h), ⟨rfl, B9, p9.from hh0, f9⟩, fun fs hl => c11.trans (X9.ireturnOut hexec hret rfl (Or.inl rfl) (hb hbytes d46) hl)⟩
end Cmp5
namespace Cmp3
def yN : MethodName := ⟨"java/lang/StringUTF16", "compress", "([CII)[B"⟩
abbrev yB : ByteArray := jdk_52_method_16_code
theorem d0 : decode yB 0 = .ok (.iload_n 2, 1) := by decide +kernel
theorem d1 : decode yB 1 = .ok (.newarray .byte, 2) := by decide +kernel
theorem d3 : decode yB 3 = .ok (.astore_n 3, 1) := by decide +kernel
theorem d4 : decode yB 4 = .ok (.aload_n 0, 1) := by decide +kernel
theorem d5 : decode yB 5 = .ok (.iload_n 1, 1) := by decide +kernel
theorem d6 : decode yB 6 = .ok (.aload_n 3, 1) := by decide +kernel
theorem d7 : decode yB 7 = .ok (.iconst 0, 1) := by decide +kernel
theorem d8 : decode yB 8 = .ok (.iload_n 2, 1) := by decide +kernel
theorem d9 : decode yB 9 = .ok (.invokestatic 115, 3) := by decide +kernel
theorem d12 : decode yB 12 = .ok (.istore 4, 2) := by decide +kernel
theorem d14 : decode yB 14 = .ok (.iload 4, 2) := by decide +kernel
theorem d16 : decode yB 16 = .ok (.iload_n 2, 1) := by decide +kernel
theorem d17 : decode yB 17 = .ok (.if_icmp (.eq) 40, 3) := by decide +kernel
theorem d57 : decode yB 57 = .ok (.aload_n 3, 1) := by decide +kernel
theorem d58 : decode yB 58 = .ok (.areturn, 1) := by decide +kernel
def site : List Cond := [.arrayClass .byte, Cmp5.tab] ++ staticW U16 115 Cmp5.yN
def tab : Cond := tabOf yN yB 6 (some (.array .byte)) site
def P (b : Addr) (A : Cell) (o len : Nat) (args : Array Value) (s : State) : Prop := args = #[.ref b, .int (Int32.ofNat o), .int (Int32.ofNat len)] ∧ Ch b A s ∧ o + len ≤ A.slots.size ∧ len ≤ 536870912 ∧ ∀ i, i < len → ¬ 255 < cv A (o + i)
def E (b : Addr) (A : Cell) (o len : Nat) (r : Option Value) (s u : State) : Prop := NewArr .byte "[B" len (fun j => .int (lo8 (cv A (o + j)))) r s u ∧ u.heap.size = s.heap.size + 1
/-- no char of the range above 255: a new byte[] of their low bytes -/
theorem law (l : Launch) (b : Addr) (A : Cell) (o len : Nat) : Law l yN 3 3 1 18 yB 6 (some (.array .byte)) site (P b A o len) (E b A o len) [] 1 len := by
  refine Law.of_walk (plainFor_of_name (by decide +kernel)) (by decide +kernel) (by decide +kernel) (by decide) (fun _ _ h => by rw [h.1]; rfl) (fun _ U U' hal hh h => ⟨h.1, h.2.1.mv hal hh, h.2.2⟩) (fun r U U' V V' h1 hal h2 h => ⟨NewArr.mv r U U' V V' h1 hal h2 h.1, by rw [h1, h2]; exact h.2⟩) ?_
  intro p e s m args below meth c s₁ X0 hexec hbytes hml hret hlk hnm hown hh0 W hP
  obtain ⟨rfl, hA, l1, l2, hp⟩ := hP
  have a31 := hA.1.2.2.2
  have c1 : Steps p.tables e below (s₁.setTop (entryFrame m #[.ref b, .int (Int32.ofNat o), .int (Int32.ofNat len)] 6)) (s₁.setTop (mkF m 0 #[.val (.ref b), .val (.int (Int32.ofNat o)), .val (.int (Int32.ofNat len)), .unset, .unset, .unset] [])) := entry rfl
  have c2 : Steps p.tables e below (s₁.setTop (entryFrame m #[.ref b, .int (Int32.ofNat o), .int (Int32.ofNat len)] 6)) (s₁.setTop (mkF m 1 #[.val (.ref b), .val (.int (Int32.ofNat o)), .val (.int (Int32.ofNat len)), .unset, .unset, .unset] [.int (Int32.ofNat len)])) := c1.trans (by
    refine XS.iloadN X0.here hexec rfl (hb hbytes d0) rfl ?_
    exact Steps.refl _)
  obtain ⟨T3, B3, X3, ba3, bs3, bv3, bh3, bf3, st3⟩ := X0.anew hexec (atype := .byte) (wk W (.arrayClass .byte)) rfl (by show len * 1 ≤ _; omega) (by omega) (g := (mkF m 1 #[.val (.ref b), .val (.int (Int32.ofNat o)), .val (.int (Int32.ofNat len)), .unset, .unset, .unset] [.int (Int32.ofNat len)])) rfl (hb hbytes d1) (rest := []) rfl (Nat.le_refl _) (by show 0 + len ≤ len; omega)
  rw [hh0] at ba3 st3
  have kp3 : XT.Kept s T3 := (XT.Kept.of_eq hh0).push bh3
  have hA3 := hA.keep X3.warmed.alike (kp3 _ _ hA.1.1)
  have hne : b ≠ s.heap.size := hA.1.ne
  have c4 : Steps p.tables e below (s₁.setTop (entryFrame m #[.ref b, .int (Int32.ofNat o), .int (Int32.ofNat len)] 6)) (T3.setTop (mkF m 3 #[.val (.ref b), .val (.int (Int32.ofNat o)), .val (.int (Int32.ofNat len)), .unset, .unset, .unset] [.ref s.heap.size])) := c2.trans (st3 _ (Steps.refl _))
  have c5 : Steps p.tables e below (s₁.setTop (entryFrame m #[.ref b, .int (Int32.ofNat o), .int (Int32.ofNat len)] 6)) (T3.setTop (mkF m 9 #[.val (.ref b), .val (.int (Int32.ofNat o)), .val (.int (Int32.ofNat len)), .val (.ref s.heap.size), .unset, .unset] [.int (Int32.ofNat len), .int 0, .ref s.heap.size, .int (Int32.ofNat o), .ref b])) := c4.trans (by
    refine XS.astoreN X3.here hexec rfl (hb hbytes d3) rfl rfl rfl ?_
    refine XS.aloadN X3.here hexec rfl (hb hbytes d4) rfl rfl ?_
    refine XS.iloadN X3.here hexec rfl (hb hbytes d5) rfl ?_
    refine XS.aloadN X3.here hexec rfl (hb hbytes d6) rfl rfl ?_
    refine iconstV X3.here hexec rfl 0 (hb hbytes d7) (by decide) ?_
    refine XS.iloadN X3.here hexec rfl (hb hbytes d8) rfl ?_
    exact Steps.refl _)
  obtain ⟨v6, T6, X6, E6, g6⟩ := X3.callS hexec (Cmp5.law l b A s.heap.size B3 o 0 len) hown (wks W (staticW U16 115 Cmp5.yN)) (wk W Cmp5.tab) (W := 0) (Nat.le_of_ble_eq_true rfl) (Nat.le_of_ble_eq_true rfl) (Nat.le_refl _) (by show 0 + len + 0 ≤ len; omega) (g := (mkF m 9 #[.val (.ref b), .val (.int (Int32.ofNat o)), .val (.int (Int32.ofNat len)), .val (.ref s.heap.size), .unset, .unset] [.int (Int32.ofNat len), .int (Int32.ofNat 0), .ref s.heap.size, .int (Int32.ofNat o), .ref b])) rfl (by rw [hml]; rfl) c5 (argsL := [.ref b, .int (Int32.ofNat o), .ref s.heap.size, .int (Int32.ofNat 0), .int (Int32.ofNat len)]) (rest := []) rfl rfl (by show 2 * 0 + 0 ≤ _; decide) (hb hbytes d9) (⟨rfl, hA3, ba3, hne, l1, by rw [bs3]; simp, hp⟩)
  obtain ⟨rfl, B6, p6, f6⟩ := E6
  have c7 : Steps p.tables e below (s₁.setTop (entryFrame m #[.ref b, .int (Int32.ofNat o), .int (Int32.ofNat len)] 6)) (T6.setTop (mkF m 12 #[.val (.ref b), .val (.int (Int32.ofNat o)), .val (.int (Int32.ofNat len)), .val (.ref s.heap.size), .unset, .unset] [.int (Int32.ofNat len)])) := g6
  have c8 : Steps p.tables e below (s₁.setTop (entryFrame m #[.ref b, .int (Int32.ofNat o), .int (Int32.ofNat len)] 6)) (T6.setTop (mkF m 58 #[.val (.ref b), .val (.int (Int32.ofNat o)), .val (.int (Int32.ofNat len)), .val (.ref s.heap.size), .val (.int (Int32.ofNat len)), .unset] [.ref s.heap.size])) := c7.trans (by
    refine XS.istore X6.here hexec rfl (hb hbytes d12) rfl rfl ?_
    refine XS.iload X6.here hexec rfl (hb hbytes d14) rfl ?_
    refine XS.iloadN X6.here hexec rfl (hb hbytes d16) rfl ?_
    refine XS.icmpYes X6.here hexec rfl (pc0 := 17) rfl (hb hbytes d17) rfl (ii_eq_t rfl) (by decide) rfl ?_
    refine XS.aloadN X6.here hexec rfl (hb hbytes d57) rfl rfl ?_
    exact Steps.refl _)
  have X8 := X6.wide (L' := []) (cells' := 1) (slots' := len) (fun x hx hlt => by
    simp only [List.nil_append, copyLocs, List.mem_map, List.mem_range] at hx
    obtain ⟨i, -, rfl⟩ := hx
    exact absurd hlt (Nat.lt_irrefl _)) (Nat.le_refl _) (by omega)
  exact ⟨T6, some (.ref s.heap.size), _, _, _, X8, rfl, rfl, rfl, (fun h => by cases h), ⟨⟨rfl, B6, ba3.like (X3.warmed.alike.symm.trans X6.warmed.alike) p6.1 f6.1 f6.2.1 f6.2.2.1, f6.2.1.trans bv3, by rw [X6.warmed.alike.findClass, f6.1]; exact bf3, by rw [f6.2.2.1, bs3]; simp, fun j hj => by rw [f6.2.2.2 j, if_pos (by omega)]; rfl, kp3.put p6 (Nat.le_refl _)⟩, by rw [p6.2.2, bh3, hh0]; simp⟩, fun fs hl => c8.trans (X8.areturnOut hexec rfl hret rfl (hb hbytes d58) hl)⟩
end Cmp3
namespace CodL
def yN : MethodName := ⟨"java/lang/StringUTF16", "coderFromArrayLen", "([BI)B"⟩
abbrev yB : ByteArray := jdk_52_method_15_code
theorem d0 : decode yB 0 = .ok (.iload_n 1, 1) := by decide +kernel
theorem d1 : decode yB 1 = .ok (.aload_n 0, 1) := by decide +kernel
theorem d2 : decode yB 2 = .ok (.arraylength, 1) := by decide +kernel
theorem d3 : decode yB 3 = .ok (.isub, 1) := by decide +kernel
theorem d4 : decode yB 4 = .ok (.bipush 31, 2) := by decide +kernel
theorem d6 : decode yB 6 = .ok (.iushr, 1) := by decide +kernel
theorem d7 : decode yB 7 = .ok (.i2b, 1) := by decide +kernel
theorem d8 : decode yB 8 = .ok (.ireturn, 1) := by decide +kernel
def site : List Cond := []
def tab : Cond := tabOf yN yB 2 (some .byte) site
def P (d : Addr) (B : Cell) (args : Array Value) (s : State) : Prop := args = #[.ref d, .int (Int32.ofNat B.slots.size)] ∧ Arr .byte d B s
def E (r : Option Value) (s u : State) : Prop := XT.PureE (some (.int 0)) r s u
/-- an array as long as the number of chars: LATIN1 -/
theorem law (l : Launch) (d : Addr) (B : Cell) : Law l yN 2 2 0 0 yB 2 (some .byte) site (P d B) E [] 0 0 := by
  refine Law.of_walk (plainFor_of_name (by decide +kernel)) (by decide +kernel) (by decide +kernel) (by decide) (fun _ _ h => by rw [h.1]; rfl) (fun _ U U' hal hh h => ⟨h.1, h.2.mv hal hh⟩) (fun r U U' V V' h1 hal h2 h => XT.PureE.mv r U U' V V' h1 hal h2 h) ?_
  intro p e s m args below meth c s₁ X0 hexec hbytes hml hret hlk hnm hown hh0 W hP
  obtain ⟨rfl, hB⟩ := hP
  have hB0 := hB.mv X0.warmed.alike hh0
  have c1 : Steps p.tables e below (s₁.setTop (entryFrame m #[.ref d, .int (Int32.ofNat B.slots.size)] 2)) (s₁.setTop (mkF m 0 #[.val (.ref d), .val (.int (Int32.ofNat B.slots.size))] [])) := entry rfl
  have c2 : Steps p.tables e below (s₁.setTop (entryFrame m #[.ref d, .int (Int32.ofNat B.slots.size)] 2)) (s₁.setTop (mkF m 2 #[.val (.ref d), .val (.int (Int32.ofNat B.slots.size))] [.ref d, .int (Int32.ofNat B.slots.size)])) := c1.trans (by
    refine XS.iloadN X0.here hexec rfl (hb hbytes d0) rfl ?_
    refine XS.aloadN X0.here hexec rfl (hb hbytes d1) rfl rfl ?_
    exact Steps.refl _)
  have c3 : Steps p.tables e below (s₁.setTop (entryFrame m #[.ref d, .int (Int32.ofNat B.slots.size)] 2)) (s₁.setTop (mkF m 8 #[.val (.ref d), .val (.int (Int32.ofNat B.slots.size))] [.int (lo8 (ushr (Int32.ofNat B.slots.size - Int32.ofNat B.slots.size) 31))])) := c2.trans (by
    refine X0.alen hexec hB0 rfl rfl (hb hbytes d2) ?_
    refine XS.isub X0.here hexec rfl (hb hbytes d3) rfl ?_
    refine bipushV X0.here hexec rfl 31 (hb hbytes d4) (by decide) ?_
    refine iushr X0.here hexec rfl (hb hbytes d6) rfl ?_
    refine i2b X0.here hexec rfl (hb hbytes d7) rfl ?_
    exact Steps.refl _)
  have e0 : lo8 (ushr (Int32.ofNat B.slots.size - Int32.ofNat B.slots.size) 31) = 0 := by rw [Int32.sub_self]; decide
  rw [e0] at c3
  exact ⟨s₁, some (.int 0), _, _, _, X0, rfl, rfl, rfl, (fun h => by cases h), ⟨rfl, hh0⟩, fun fs hl => c3.trans (X0.ireturnOut hexec hret rfl (Or.inr (Or.inr (Or.inl rfl))) (hb hbytes d8) hl)⟩
end CodL
/-- the String at a is Latin-1 over a new byte[] (the heap's one new cell): the low bytes of the len chars of A from o on; every cell but a is kept -/
def Got (a : Addr) (D : Cell) (fV fC : Field) (A : Cell) (o len : Nat) (r : Option Value) (s u : State) : Prop := r = none ∧ ∃ D' V : Cell, Blank "java/lang/String" a D' u ∧ Same D D' [fV.slot, fC.slot] ∧ D'.slots[fV.slot]? = some (.ref s.heap.size) ∧ D'.slots[fC.slot]? = some (.int 0) ∧ Arr .byte s.heap.size V u ∧ V.vm = .none ∧ u.vm.findClass "[B" = some V.cls ∧ V.slots.size = len ∧ (∀ j, j < len → V.slots[j]? = some (.int (lo8 (cv A (o + j))))) ∧ (∀ (y : Addr) (c : Cell), y ≠ a → s.heap[y]? = some c → u.heap[y]? = some c) ∧ u.heap.size = s.heap.size + 1
theorem Got.mv {a : Addr} {D A : Cell} {fV fC : Field} {o len : Nat} : ∀ r (U U' V V' : State), U'.heap = U.heap → V.vm.Alike V'.vm → V'.heap = V.heap → Got a D fV fC A o len r U V → Got a D fV fC A o len r U' V' :=
  fun r U U' V V' h1 hal h2 ⟨e0, D', X, a1, a2, a3, a4, a5, a6, a7, a8, a9, a10, a11⟩ => ⟨e0, D', X, a1.mv hal h2, a2, by rw [h1]; exact a3, a4, by rw [h1]; exact a5.mv hal h2, a6, by rw [hal.findClass]; exact a7, a8, a9, by rw [h1, h2]; exact a10, by rw [h1, h2]; exact a11⟩
namespace New4
def yN : MethodName := ⟨"java/lang/String", "<init>", "([CIILjava/lang/Void;)V"⟩
abbrev yB : ByteArray := jdk_42_method_149_code
theorem d0 : decode yB 0 = .ok (.aload_n 0, 1) := by decide +kernel
theorem d1 : decode yB 1 = .ok (.invokespecial 1, 3) := by decide +kernel
theorem d4 : decode yB 4 = .ok (.iload_n 3, 1) := by decide +kernel
theorem d5 : decode yB 5 = .ok (.ifCond (.ne) 22, 3) := by decide +kernel
theorem d27 : decode yB 27 = .ok (.getstatic 38, 3) := by decide +kernel
theorem d30 : decode yB 30 = .ok (.ifCond (.eq) 28, 3) := by decide +kernel
theorem d33 : decode yB 33 = .ok (.aload_n 1, 1) := by decide +kernel
theorem d34 : decode yB 34 = .ok (.iload_n 2, 1) := by decide +kernel
theorem d35 : decode yB 35 = .ok (.iload_n 3, 1) := by decide +kernel
theorem d36 : decode yB 36 = .ok (.invokestatic 177, 3) := by decide +kernel
theorem d39 : decode yB 39 = .ok (.astore 5, 2) := by decide +kernel
theorem d41 : decode yB 41 = .ok (.aload_n 0, 1) := by decide +kernel
theorem d42 : decode yB 42 = .ok (.aload 5, 2) := by decide +kernel
theorem d44 : decode yB 44 = .ok (.iload_n 3, 1) := by decide +kernel
theorem d45 : decode yB 45 = .ok (.invokestatic 47, 3) := by decide +kernel
theorem d48 : decode yB 48 = .ok (.putfield 15, 3) := by decide +kernel
theorem d51 : decode yB 51 = .ok (.aload_n 0, 1) := by decide +kernel
theorem d52 : decode yB 52 = .ok (.aload 5, 2) := by decide +kernel
theorem d54 : decode yB 54 = .ok (.putfield 9, 3) := by decide +kernel
theorem d57 : decode yB 57 = .ok (.return_, 1) := by decide +kernel
def site : List Cond := [.fieldLink "java/lang/String" 38 "java/lang/String" "COMPACT_STRINGS" "Z", Cmp3.tab, CodL.tab, .laysFinal "java/lang/String" "java/lang/String" "value" "[B", .fieldLink "java/lang/String" 9 "java/lang/String" "value" "[B", .laysFinal "java/lang/String" "java/lang/String" "coder" "B", .fieldLink "java/lang/String" 15 "java/lang/String" "coder" "B"] ++ objW "java/lang/String" 1 ++ staticW "java/lang/String" 177 Cmp3.yN ++ staticW "java/lang/String" 47 CodL.yN
def tab : Cond := tabOf yN yB 6 none site
def P (a : Addr) (D : Cell) (fV fC : Field) (b : Addr) (A : Cell) (z : Int32) (o len : Nat) (args : Array Value) (s : State) : Prop := args = #[.ref a, .ref b, .int (Int32.ofNat o), .int (Int32.ofNat len), .null] ∧ Blank "java/lang/String" a D s ∧ Found "java/lang/String" "value" "[B" fV s ∧ Found "java/lang/String" "coder" "B" fC s ∧ Ch b A s ∧ StaticIs s "java/lang/String" "COMPACT_STRINGS" "Z" (.int z) ∧ ¬ z = 0 ∧ 0 < len ∧ o + len ≤ A.slots.size ∧ len ≤ 536870912 ∧ ∀ i, i < len → ¬ 255 < cv A (o + i)
def E (a : Addr) (D : Cell) (fV fC : Field) (A : Cell) (o len : Nat) (r : Option Value) (s u : State) : Prop := Got a D fV fC A o len r s u
/-- len > 0, no char of the range above 255: a Latin-1 String of their low bytes -/
theorem law (l : Launch) (a : Addr) (D : Cell) (fV fC : Field) (b : Addr) (A : Cell) (z : Int32) (o len : Nat) : Law l yN 5 4 2 35 yB 6 none site (P a D fV fC b A z o len) (E a D fV fC A o len) [⟨a, fC.slot⟩, ⟨a, fV.slot⟩] 1 len := by
  refine Law.of_walk (plainFor_of_name (by decide +kernel)) (by decide +kernel) (by decide +kernel) (by decide) (fun _ _ h => by rw [h.1]; rfl) (fun _ U U' hal hh h => ⟨h.1, h.2.1.mv hal hh, h.2.2.1.al hal, h.2.2.2.1.al hal, h.2.2.2.2.1.mv hal hh, h.2.2.2.2.2.1.there hal hh, h.2.2.2.2.2.2⟩) (fun r U U' V V' h1 hal h2 h => Got.mv r U U' V V' h1 hal h2 h) ?_
  intro p e s m args below meth c s₁ X0 hexec hbytes hml hret hlk hnm hown hh0 W hP
  obtain ⟨rfl, hB, f1, f2, hA, s1, hz, l0, l1, l2, hp⟩ := hP
  have a31 := hA.1.2.2.2
  have c1 : Steps p.tables e below (s₁.setTop (entryFrame m #[.ref a, .ref b, .int (Int32.ofNat o), .int (Int32.ofNat len), .null] 6)) (s₁.setTop (mkF m 0 #[.val (.ref a), .val (.ref b), .val (.int (Int32.ofNat o)), .val (.int (Int32.ofNat len)), .val .null, .unset] [])) := entry rfl
  have c2 : Steps p.tables e below (s₁.setTop (entryFrame m #[.ref a, .ref b, .int (Int32.ofNat o), .int (Int32.ofNat len), .null] 6)) (s₁.setTop (mkF m 1 #[.val (.ref a), .val (.ref b), .val (.int (Int32.ofNat o)), .val (.int (Int32.ofNat len)), .val .null, .unset] [.ref a])) := c1.trans (by
    refine XS.aloadN X0.here hexec rfl (hb hbytes d0) rfl rfl ?_
    exact Steps.refl _)
  obtain ⟨T3, X3, q3, st3⟩ := X0.oinit hexec hown (wks W (objW "java/lang/String" 1)) (g := (mkF m 1 #[.val (.ref a), .val (.ref b), .val (.int (Int32.ofNat o)), .val (.int (Int32.ofNat len)), .val .null, .unset] [.ref a])) rfl (by rw [hml]; rfl) (rest := []) rfl (hb hbytes d1) (W := 0) (by show 2 * 0 + 0 ≤ _; decide) (Nat.le_of_ble_eq_true rfl) (Nat.le_of_ble_eq_true rfl)
  have hh3 := q3.trans hh0
  have c4 : Steps p.tables e below (s₁.setTop (entryFrame m #[.ref a, .ref b, .int (Int32.ofNat o), .int (Int32.ofNat len), .null] 6)) (T3.setTop (mkF m 27 #[.val (.ref a), .val (.ref b), .val (.int (Int32.ofNat o)), .val (.int (Int32.ofNat len)), .val .null, .unset] [])) := (c2.trans (st3 _ (Steps.refl _))).trans (by
    refine XS.iloadN X3.here hexec rfl (hb hbytes d4) rfl ?_
    refine XS.ifYes X3.here hexec rfl (pc0 := 5) rfl (hb hbytes d5) rfl (i0_ne_t (nz32 (by omega) l0)) (by decide) rfl ?_
    exact Steps.refl _)
  obtain ⟨T5, X5, q5, st5⟩ := X3.sget hexec hown (wk W (.fieldLink "java/lang/String" 38 "java/lang/String" "COMPACT_STRINGS" "Z")) s1 (fun _ _ h => by rw [hh3]; exact h) (g := (mkF m 27 #[.val (.ref a), .val (.ref b), .val (.int (Int32.ofNat o)), .val (.int (Int32.ofNat len)), .val .null, .unset] [])) rfl (hb hbytes d27)
  have hh5 := q5.trans hh3
  have c6 : Steps p.tables e below (s₁.setTop (entryFrame m #[.ref a, .ref b, .int (Int32.ofNat o), .int (Int32.ofNat len), .null] 6)) (T5.setTop (mkF m 30 #[.val (.ref a), .val (.ref b), .val (.int (Int32.ofNat o)), .val (.int (Int32.ofNat len)), .val .null, .unset] [.int z])) := c4.trans (st5 _ (Steps.refl _))
  have c7 : Steps p.tables e below (s₁.setTop (entryFrame m #[.ref a, .ref b, .int (Int32.ofNat o), .int (Int32.ofNat len), .null] 6)) (T5.setTop (mkF m 36 #[.val (.ref a), .val (.ref b), .val (.int (Int32.ofNat o)), .val (.int (Int32.ofNat len)), .val .null, .unset] [.int (Int32.ofNat len), .int (Int32.ofNat o), .ref b])) := c6.trans (by
    refine XS.ifNo X5.here hexec rfl (hb hbytes d30) rfl (i0_eq_f hz) ?_
    refine XS.aloadN X5.here hexec rfl (hb hbytes d33) rfl rfl ?_
    refine XS.iloadN X5.here hexec rfl (hb hbytes d34) rfl ?_
    refine XS.iloadN X5.here hexec rfl (hb hbytes d35) rfl ?_
    exact Steps.refl _)
  obtain ⟨v8, T8, X8, E8, g8⟩ := X5.callS hexec (Cmp3.law l b A o len) hown (wks W (staticW "java/lang/String" 177 Cmp3.yN)) (wk W Cmp3.tab) (W := 0) (Nat.le_of_ble_eq_true rfl) (Nat.le_of_ble_eq_true rfl) (Nat.le_refl _) (by show 0 + len ≤ len; omega) (g := (mkF m 36 #[.val (.ref a), .val (.ref b), .val (.int (Int32.ofNat o)), .val (.int (Int32.ofNat len)), .val .null, .unset] [.int (Int32.ofNat len), .int (Int32.ofNat o), .ref b])) rfl (by rw [hml]; rfl) c7 (argsL := [.ref b, .int (Int32.ofNat o), .int (Int32.ofNat len)]) (rest := []) rfl rfl (by show 2 * 0 + 0 ≤ _; decide) (hb hbytes d36) (⟨rfl, hA.mv X5.warmed.alike hh5, l1, l2, hp⟩)
  obtain ⟨e8, z8⟩ := E8
  obtain ⟨rfl, N, n1, n2, n3, n4, n5, n6⟩ := NewArr.mv _ T5 s _ _ hh5.symm (Vm.Alike.refl _) rfl e8
  rw [hh5] at z8
  have hB1 := hB.keep X8.warmed.alike (n6 _ _ hB.1)
  have hne : s.heap.size ≠ a := (Nat.ne_of_lt (Array.getElem?_eq_some_iff.mp hB.1).1).symm
  have c9 : Steps p.tables e below (s₁.setTop (entryFrame m #[.ref a, .ref b, .int (Int32.ofNat o), .int (Int32.ofNat len), .null] 6)) (T8.setTop (mkF m 39 #[.val (.ref a), .val (.ref b), .val (.int (Int32.ofNat o)), .val (.int (Int32.ofNat len)), .val .null, .unset] [.ref s.heap.size])) := g8
  have c10 : Steps p.tables e below (s₁.setTop (entryFrame m #[.ref a, .ref b, .int (Int32.ofNat o), .int (Int32.ofNat len), .null] 6)) (T8.setTop (mkF m 45 #[.val (.ref a), .val (.ref b), .val (.int (Int32.ofNat o)), .val (.int (Int32.ofNat len)), .val .null, .val (.ref s.heap.size)] [.int (Int32.ofNat N.slots.size), .ref s.heap.size, .ref a])) := by
    have hc : Steps p.tables e below (s₁.setTop (entryFrame m #[.ref a, .ref b, .int (Int32.ofNat o), .int (Int32.ofNat len), .null] 6)) (T8.setTop (mkF m 45 #[.val (.ref a), .val (.ref b), .val (.int (Int32.ofNat o)), .val (.int (Int32.ofNat len)), .val .null, .val (.ref s.heap.size)] [.int (Int32.ofNat len), .ref s.heap.size, .ref a])) := c9.trans (by
      refine XS.astore X8.here hexec rfl (hb hbytes d39) rfl rfl rfl ?_
      refine XS.aloadN X8.here hexec rfl (hb hbytes d41) rfl rfl ?_
      refine XS.aload X8.here hexec rfl (hb hbytes d42) rfl rfl ?_
      refine XS.iloadN X8.here hexec rfl (hb hbytes d44) rfl ?_
      exact Steps.refl _)
    rw [n4]; exact hc
  obtain ⟨v11, T11, X11, E11, g11⟩ := X8.callS hexec (CodL.law l s.heap.size N) hown (wks W (staticW "java/lang/String" 47 CodL.yN)) (wk W CodL.tab) (W := 1) (Nat.le_of_ble_eq_true rfl) (Nat.le_of_ble_eq_true rfl) (Nat.le_refl _) (by show 0 + len + 0 ≤ len; omega) (g := (mkF m 45 #[.val (.ref a), .val (.ref b), .val (.int (Int32.ofNat o)), .val (.int (Int32.ofNat len)), .val .null, .val (.ref s.heap.size)] [.int (Int32.ofNat N.slots.size), .ref s.heap.size, .ref a])) rfl (by rw [hml]; rfl) c10 (argsL := [.ref s.heap.size, .int (Int32.ofNat N.slots.size)]) (rest := [.ref a]) rfl rfl (by show 2 * 0 + (1 + 0) ≤ _; decide) (hb hbytes d45) (⟨rfl, n1⟩)
  obtain ⟨rfl, q11⟩ := E11
  have hB11 := hB1.mv (X8.warmed.alike.symm.trans X11.warmed.alike) q11
  have c12 : Steps p.tables e below (s₁.setTop (entryFrame m #[.ref a, .ref b, .int (Int32.ofNat o), .int (Int32.ofNat len), .null] 6)) (T11.setTop (mkF m 48 #[.val (.ref a), .val (.ref b), .val (.int (Int32.ofNat o)), .val (.int (Int32.ofNat len)), .val .null, .val (.ref s.heap.size)] [.int 0, .ref a])) := g11
  obtain ⟨T13, X13, p13, bl13, sl13, st13⟩ := X11.finit hexec hown (wk W (.fieldLink "java/lang/String" 15 "java/lang/String" "coder" "B")) (Or.inr ⟨_, (wk W (.laysFinal "java/lang/String" "java/lang/String" "coder" "B"))⟩) (Or.inl ⟨rfl, hnm⟩) f2 (Or.inl rfl) hB11 (t := .byte) (by decide +kernel) rfl (g := (mkF m 48 #[.val (.ref a), .val (.ref b), .val (.int (Int32.ofNat o)), .val (.int (Int32.ofNat len)), .val .null, .val (.ref s.heap.size)] [.int 0, .ref a])) rfl (rest := []) rfl (hb hbytes d48)
  have c14 : Steps p.tables e below (s₁.setTop (entryFrame m #[.ref a, .ref b, .int (Int32.ofNat o), .int (Int32.ofNat len), .null] 6)) (T13.setTop (mkF m 54 #[.val (.ref a), .val (.ref b), .val (.int (Int32.ofNat o)), .val (.int (Int32.ofNat len)), .val .null, .val (.ref s.heap.size)] [.ref s.heap.size, .ref a])) := (c12.trans (st13 _ (Steps.refl _))).trans (by
    refine XS.aloadN X13.here hexec rfl (hb hbytes d51) rfl rfl ?_
    refine XS.aload X13.here hexec rfl (hb hbytes d52) rfl rfl ?_
    exact Steps.refl _)
  obtain ⟨T15, X15, p15, bl15, sl15, st15⟩ := X13.finit hexec hown (wk W (.fieldLink "java/lang/String" 9 "java/lang/String" "value" "[B")) (Or.inr ⟨_, (wk W (.laysFinal "java/lang/String" "java/lang/String" "value" "[B"))⟩) (Or.inl ⟨rfl, hnm⟩) f1 (Or.inl rfl) bl13 (t := (.array .byte)) (by decide +kernel) rfl (g := (mkF m 54 #[.val (.ref a), .val (.ref b), .val (.int (Int32.ofNat o)), .val (.int (Int32.ofNat len)), .val .null, .val (.ref s.heap.size)] [.ref s.heap.size, .ref a])) rfl (rest := []) rfl (hb hbytes d54)
  have c16 : Steps p.tables e below (s₁.setTop (entryFrame m #[.ref a, .ref b, .int (Int32.ofNat o), .int (Int32.ofNat len), .null] 6)) (T15.setTop (mkF m 57 #[.val (.ref a), .val (.ref b), .val (.int (Int32.ofNat o)), .val (.int (Int32.ofNat len)), .val .null, .val (.ref s.heap.size)] [])) := c14.trans (st15 _ (Steps.refl _))
  have ap := apart (Or.inr ⟨_, (wk W (.laysFinal "java/lang/String" "java/lang/String" "value" "[B"))⟩) (Or.inr ⟨_, (wk W (.laysFinal "java/lang/String" "java/lang/String" "coder" "B"))⟩) f1 f2 (t₁ := .array .byte) (t₂ := .byte) (by decide +kernel) (by decide +kernel) (by decide)
  have al := X8.warmed.alike.symm.trans X15.warmed.alike
  have n7 : T11.heap[s.heap.size]? = some N := by rw [q11]; exact n1.1
  exact ⟨T15, none, _, _, _, X15, by simp, rfl, by omega, (fun _ => rfl), ⟨rfl, _, N, bl15, ((Same.refl D _).set _ (by simp)).set _ (by simp), sl15, (Cell.slots_setSlot_ne _ ap).trans sl13, n1.keep al (p15.other hne (p13.other hne n7)), n2, by rw [al.findClass]; exact n3, n4, n5, fun y c h1 h2 => p15.other h1 (p13.other h1 (by rw [q11]; exact n6 y c h2)), by rw [p15.2.2, p13.2.2, q11]; exact z8⟩, fun fs hl => c16.trans (X15.returnOut hexec hret (hb hbytes d57) hl)⟩
end New4
namespace New1
def yN : MethodName := ⟨"java/lang/String", "<init>", "([C)V"⟩
abbrev yB : ByteArray := jdk_42_method_3_code
theorem d0 : decode yB 0 = .ok (.aload_n 0, 1) := by decide +kernel
theorem d1 : decode yB 1 = .ok (.aload_n 1, 1) := by decide +kernel
theorem d2 : decode yB 2 = .ok (.iconst 0, 1) := by decide +kernel
theorem d3 : decode yB 3 = .ok (.aload_n 1, 1) := by decide +kernel
theorem d4 : decode yB 4 = .ok (.arraylength, 1) := by decide +kernel
theorem d5 : decode yB 5 = .ok (.aconst_null, 1) := by decide +kernel
theorem d6 : decode yB 6 = .ok (.invokespecial 27, 3) := by decide +kernel
theorem d9 : decode yB 9 = .ok (.return_, 1) := by decide +kernel
def site : List Cond := [New4.tab] ++ initW "java/lang/String" 27 New4.yN
def tab : Cond := tabOf yN yB 2 none site
def P (a : Addr) (D : Cell) (fV fC : Field) (b : Addr) (A : Cell) (z : Int32) (args : Array Value) (s : State) : Prop := args = #[.ref a, .ref b] ∧ Blank "java/lang/String" a D s ∧ Found "java/lang/String" "value" "[B" fV s ∧ Found "java/lang/String" "coder" "B" fC s ∧ Ch b A s ∧ StaticIs s "java/lang/String" "COMPACT_STRINGS" "Z" (.int z) ∧ ¬ z = 0 ∧ 0 < A.slots.size ∧ A.slots.size ≤ 536870912 ∧ ∀ i, i < A.slots.size → ¬ 255 < cv A i
def E (a : Addr) (D : Cell) (fV fC : Field) (A : Cell) (r : Option Value) (s u : State) : Prop := Got a D fV fC A 0 A.slots.size r s u
/-- new String(chars), not empty, no char above 255: a Latin-1 String of their low bytes -/
theorem law (l : Launch) (a : Addr) (D : Cell) (fV fC : Field) (b : Addr) (A : Cell) (z : Int32) : Law l yN 2 1 3 52 yB 2 none site (P a D fV fC b A z) (E a D fV fC A) [⟨a, fC.slot⟩, ⟨a, fV.slot⟩] 1 A.slots.size := by
  refine Law.of_walk (plainFor_of_name (by decide +kernel)) (by decide +kernel) (by decide +kernel) (by decide) (fun _ _ h => by rw [h.1]; rfl) (fun _ U U' hal hh h => ⟨h.1, h.2.1.mv hal hh, h.2.2.1.al hal, h.2.2.2.1.al hal, h.2.2.2.2.1.mv hal hh, h.2.2.2.2.2.1.there hal hh, h.2.2.2.2.2.2⟩) (fun r U U' V V' h1 hal h2 h => Got.mv r U U' V V' h1 hal h2 h) ?_
  intro p e s m args below meth c s₁ X0 hexec hbytes hml hret hlk hnm hown hh0 W hP
  obtain ⟨rfl, hB, f1, f2, hA, s1, hz, l0, l2, hp⟩ := hP
  have c1 : Steps p.tables e below (s₁.setTop (entryFrame m #[.ref a, .ref b] 2)) (s₁.setTop (mkF m 0 #[.val (.ref a), .val (.ref b)] [])) := entry rfl
  have c2 : Steps p.tables e below (s₁.setTop (entryFrame m #[.ref a, .ref b] 2)) (s₁.setTop (mkF m 6 #[.val (.ref a), .val (.ref b)] [.null, .int (Int32.ofNat A.slots.size), .int 0, .ref b, .ref a])) := c1.trans (by
    refine XS.aloadN X0.here hexec rfl (hb hbytes d0) rfl rfl ?_
    refine XS.aloadN X0.here hexec rfl (hb hbytes d1) rfl rfl ?_
    refine iconstV X0.here hexec rfl 0 (hb hbytes d2) (by decide) ?_
    refine XS.aloadN X0.here hexec rfl (hb hbytes d3) rfl rfl ?_
    refine X0.alen hexec (hA.1.mv X0.warmed.alike hh0) rfl rfl (hb hbytes d4) ?_
    refine XS.aconstNull X0.here hexec rfl (hb hbytes d5) ?_
    exact Steps.refl _)
  obtain ⟨v3, T3, X3, E3, g3⟩ := X0.callN hexec (New4.law l a D fV fC b A z 0 A.slots.size) rfl hown (wks W (initW "java/lang/String" 27 New4.yN)) (W New4.tab (by simp only [site, List.mem_cons, List.mem_append, true_or, or_true])) (W := 0) (Nat.le_of_ble_eq_true rfl) (Nat.le_of_ble_eq_true rfl) (Nat.le_refl _) (by show 0 + A.slots.size ≤ A.slots.size; omega) (g := (mkF m 6 #[.val (.ref a), .val (.ref b)] [.null, .int (Int32.ofNat A.slots.size), .int (Int32.ofNat 0), .ref b, .ref a])) rfl (by rw [hml]; rfl) c2 (argsL := [.ref b, .int (Int32.ofNat 0), .int (Int32.ofNat A.slots.size), .null]) (rest := []) rfl rfl (by show 2 * 0 + 0 ≤ _; decide) (hb hbytes d6) (⟨rfl, hB.mv X0.warmed.alike hh0, f1.al X0.warmed.alike, f2.al X0.warmed.alike, hA.mv X0.warmed.alike hh0, s1.there X0.warmed.alike hh0, hz, l0, by omega, l2, fun i hi => by rw [Nat.zero_add]; exact hp i hi⟩)
  have e0 := Got.mv _ s₁ s _ _ hh0.symm (Vm.Alike.refl _) rfl E3
  obtain rfl := e0.1
  have c4 : Steps p.tables e below (s₁.setTop (entryFrame m #[.ref a, .ref b] 2)) (T3.setTop (mkF m 9 #[.val (.ref a), .val (.ref b)] [])) := g3
  exact ⟨T3, none, _, _, _, X3, by simp, rfl, by omega, (fun _ => rfl), e0, fun fs hl => c4.trans (X3.returnOut hexec hret (hb hbytes d9) hl)⟩
theorem pays {l : Launch} {R : Room} {p : Program} {e : Env} {below : List Frame} {s : State} {sargs : Array Value} {len W : Nat} (a : Addr) (D : Cell) (fV fC : Field) (b : Addr) (A : Cell) (z : Int32) (htab : tab.before sargs s = true) (hfr : 4 ≤ R.frames) (hlo : W + 65 ≤ R.locals) :
    Back l R p e below s sargs yN len W (fun A₁ a₁ => A₁.cells + 1 ≤ R.cells ∧ A₁.slots + A.slots.size ≤ R.slots ∧ P a D fV fC b A z a₁ A₁.U) (fun A₁ _ v₁ B₁ => E a D fV fC A v₁ A₁.U B₁.U ∧ B₁.locs = A₁.locs ++ [⟨a, fC.slot⟩, ⟨a, fV.slot⟩] ∧ B₁.cells = A₁.cells + 1 ∧ B₁.slots = A₁.slots + A.slots.size) :=
  (law l a D fV fC b A z).pays htab hfr (by omega)
end New1
end StrChars
namespace StrChars.Road
open Jvm Sem ClassFile Op Lib Jvm.Stand Jvm.Free Jvm.Free.XT
open Jvm.Lib.Cold (StaticIs)
abbrev ST : String := "java/lang/String"
/-- every table word that New1's law asks, flat -/
abbrev words : List Jvm.Cond := [.code New1.yN New1.yB 2 none, .initialized ST, .methodLink ST 27 New4.yN, .instanceMethod New4.yN,
  .code New4.yN New4.yB 6 none, .fieldLink ST 38 ST "COMPACT_STRINGS" "Z", .laysFinal ST ST "value" "[B", .fieldLink ST 9 ST "value" "[B", .laysFinal ST ST "coder" "B", .fieldLink ST 15 ST "coder" "B",
  .methodLink ST 1 Lib.objectInit, .instanceMethod Lib.objectInit, .code Lib.objectInit ⟨#[0xb1]⟩ 1 none, .methodLink ST 177 Cmp3.yN, .static Cmp3.yN, .methodLink ST 47 CodL.yN, .static CodL.yN,
  .code Cmp3.yN Cmp3.yB 6 (some (.array .byte)), .initialized U16, .arrayClass .byte, .methodLink U16 115 Cmp5.yN, .static Cmp5.yN, .code Cmp5.yN Cmp5.yB 7 (some .int), .code CodL.yN CodL.yB 2 (some .byte)]
theorem tab_of {a : Array Value} {s : State} (h : ∀ w ∈ words, w.before a s = true) : New1.tab.before a s = true := by
  have h5 : Cmp5.tab.before a s = true := unparts (wk h (.code Cmp5.yN Cmp5.yB 7 (some .int))) (wks h (.initialized Cmp5.yN.cls :: Cmp5.site))
  have hc : CodL.tab.before a s = true := unparts (wk h (.code CodL.yN CodL.yB 2 (some .byte))) (wks h (.initialized CodL.yN.cls :: CodL.site))
  have q5 : ∀ w ∈ Cmp5.tab :: words, w.before a s = true := fun w hw => (List.mem_cons.mp hw).elim (fun e => e ▸ h5) (h w)
  have h3 : Cmp3.tab.before a s = true := unparts (wk q5 (.code Cmp3.yN Cmp3.yB 6 (some (.array .byte)))) (wks q5 (.initialized Cmp3.yN.cls :: Cmp3.site))
  have q3 : ∀ w ∈ Cmp3.tab :: CodL.tab :: words, w.before a s = true := fun w hw => (List.mem_cons.mp hw).elim (fun e => e ▸ h3) fun hw => (List.mem_cons.mp hw).elim (fun e => e ▸ hc) (h w)
  have h4 : New4.tab.before a s = true := unparts (wk q3 (.code New4.yN New4.yB 6 none)) (wks q3 (.initialized New4.yN.cls :: New4.site))
  have q4 : ∀ w ∈ New4.tab :: words, w.before a s = true := fun w hw => (List.mem_cons.mp hw).elim (fun e => e ▸ h4) (h w)
  exact unparts (wk q4 (.code New1.yN New1.yB 2 none)) (wks q4 (.initialized New1.yN.cls :: New1.site))
/-- the words ride from the start Z to the walk's own state -/
theorem moved {Z s : State} {a0 args : Array Value} (hZ : Z.Warmed39 s.vm) (hw : ∀ d ∈ words, d.before a0 Z = true) : ∀ d ∈ words, d.before args s = true := fun d hd => by
  have q := hw d hd
  have t : ∀ d ∈ words, d = .arrayClass .byte ∨ (d.onTables && d.keepsFace) = true := by decide +kernel
  rcases t d hd with rfl | t
  · exact RoadKit.mvA hZ q
  · exact RoadKit.mv hZ q t
/-- WHAT COMES BACK, over the tables of the start Z: h the heap at the call, h' behind it -/
def Q (Z : State) (x : Addr) (A : Cell) (h : Heap) (v : Option Value) (h' : Heap) (L : List Loc) : Prop := v = none ∧ (∀ y ∈ L, y.base = x) ∧ RoadKit.Keep h h' [x] ∧ h'.size = h.size + 1 ∧ RoadKit.Exa Z h' x ST ∧ RoadKit.Fld Z h' x ST "value" "[B" (.ref h.size) ∧ RoadKit.Fld Z h' x ST "coder" "B" (.int 0) ∧
  (∃ V : Cell, RoadKit.Arr Z h' h.size V .byte ∧ V.vm = .none ∧ Z.vm.findClass "[B" = some V.cls ∧ V.slots.size = A.slots.size ∧ ∀ j, j < A.slots.size → V.slots[j]? = some (.int (lo8 (cv A j)))) ∧
  ∀ (O n d : String) (w : Value), RoadKit.Fld Z h x O n d w → RoadKit.slotOf Z O n d ≠ RoadKit.slotOf Z ST "value" "[B" → RoadKit.slotOf Z O n d ≠ RoadKit.slotOf Z ST "coder" "B" → RoadKit.Fld Z h' x O n d w
/-- **new String(chars) AT A CALL, IN THE ROAD'S FORM**: for specialBack behind newO: x the fresh String, b the char[] with the cell A -/
theorem back {p : Program} {l : Launch} {e : Env} {R : Room} {s : State} {args : Array Value} {below : List Frame} {len W : Nat} {Z : State} {a0 : Array Value} {h : Heap} (hZ : Z.Warmed39 s.vm) (hw : ∀ d ∈ words, d.before a0 Z = true) {kI : Nat} (wi : (Jvm.Cond.instantiable ST kI).before a0 Z = true)
    {x b : Addr} {A : Cell} {z : Int32} {v0 c0 : Value} (E : RoadKit.Exa Z h x ST) (V : RoadKit.Fld Z h x ST "value" "[B" v0) (C : RoadKit.Fld Z h x ST "coder" "B" c0) (K : RoadKit.Arr Z h b A .char) (hty : Typed .char A) (S : RoadKit.Sta Z h ST "COMPACT_STRINGS" "Z" (.int z)) (hz : ¬ z = 0)
    (l0 : 0 < A.slots.size) (l2 : A.slots.size ≤ 536870912) (hp : ∀ i, i < A.slots.size → ¬ 255 < cv A i) (hfr : 4 ≤ R.frames) (hlo : W + 65 ≤ R.locals) :
    Back l R p e below s args New1.yN len W (fun P a => a = #[.ref x, .ref b] ∧ P.U.heap = h ∧ P.cells + 1 ≤ R.cells ∧ P.slots + A.slots.size ≤ R.slots)
      (fun P _ v B => ∃ L, Q Z x A h v B.U.heap L ∧ B.locs = P.locs ++ L ∧ B.cells = P.cells + 1 ∧ B.slots = P.slots + A.slots.size) := by
  intro m meth c P g ig mk a X hg hsize hdg hW hn hp'
  obtain ⟨rfl, rfl, r1, r2⟩ := hp'
  have al : Z.vm.Alike P.U.vm := hZ.alike.trans X.warmed.alike
  obtain ⟨D, cfV, kV, iV, fV, hD, gV, stV, knV, obV, asV, slV⟩ := id V
  obtain ⟨D', cfC, kC, iC, fC, hD', gC, stC, -, -, asC, slC⟩ := id C
  cases hD.symm.trans hD'
  obtain ⟨D2, kD, e1, e2, e3, e4, e5⟩ := id E
  cases hD.symm.trans e1
  obtain ⟨c2, k2, i1, i2, i3, -⟩ := Cond.instantiable_spec wi
  cases e2.symm.trans i1
  cases e3.symm.trans i2
  obtain ⟨kU, u1, u2⟩ := al.2.2 _ _ e3
  have hB : Blank ST x D P.U := ⟨hD, ⟨knV, fun q hq => by rw [hq] at obV; cases obV⟩, by rw [al.findClass]; exact e2, kU, u1, by rw [u2]; exact i3, by rw [u2]; exact e5 i3⟩
  have F1 : Found ST "value" "[B" fV P.U := ⟨SBG.found_only al ⟨cfV, kV, iV, gV⟩, stV⟩
  have F2 : Found ST "coder" "B" fC P.U := ⟨SBG.found_only al ⟨cfC, kC, iC, gC⟩, stC⟩
  have hA : Ch b A P.U := ⟨⟨K.1, State.isArrayOf_alike al K.2.1, K.2.2, by omega⟩, hty⟩
  have hS : StaticIs P.U ST "COMPACT_STRINGS" "Z" (.int z) := by
    obtain ⟨cfS, iS, kS, fS, st, cS, t1, t2, t3, t4, t5, t6, t7⟩ := S
    exact StaticIs.there (s := { Z with heap := P.U.heap }) ⟨cfS, iS, kS, fS, st, cS, t1, t2, t3, t4, t5, (fun q => by rw [q] at t6; cases t6), t7⟩ al rfl
  obtain ⟨v, B, X', ⟨⟨hv, E', V', q1, q2, q3, q4, q5, q6, q7, q8, q9, q10, q11⟩, hl, hc, hs⟩, st⟩ := New1.pays x D fV fC b A z (tab_of (moved hZ hw)) hfr hlo m meth c P g ig mk _ X hg hsize hdg hW hn ⟨r1, r2, rfl, hB, F1, F2, hA, hS, hz, l0, l2, hp⟩
  have al' : Z.vm.Alike B.U.vm := hZ.alike.trans X'.warmed.alike
  have hsz : E'.slots.size = D.slots.size := by
    obtain ⟨-, -, -, kB, w1, w2, w3⟩ := q1
    obtain ⟨kB', y1, y2⟩ := al'.2.2 _ _ e3
    rw [q2.2.1] at w1
    cases w1.symm.trans y1
    rw [w3, e5 i3, y2]
  refine ⟨v, B, X', ⟨_, ⟨hv, ?_, ⟨by omega, fun y cy hy hn' => q10 y cy (by simpa using hn') hy, fun y cy hy => ?_⟩, q11, ⟨E', _, q1.1, by rw [q2.2.1]; exact e2, by rw [q2.2.1]; exact e3, by rw [q2.1]; exact obV, fun _ => by rw [hsz]; exact e5 i3⟩,
    ⟨E', cfV, kV, iV, fV, q1.1, gV, stV, by rw [q2.1]; exact knV, by rw [q2.1]; exact obV, by rw [q2.2.1]; exact asV, q3⟩, ⟨E', cfC, kC, iC, fC, q1.1, gC, stC, by rw [q2.1]; exact knV, by rw [q2.1]; exact obV, by rw [q2.2.1]; exact asC, q4⟩,
    ⟨V', ⟨q5.1, State.isArrayOf_alike al'.symm q5.2.1, q5.2.2.1⟩, q6, by rw [← al'.findClass]; exact q7, q8, fun j hj => by have := q9 j hj; rwa [Nat.zero_add] at this⟩, fun O n d w F n1 n2 => ?_⟩, hl, hc, hs⟩, st⟩
  · intro y hy
    simp only [List.mem_cons, List.not_mem_nil, or_false] at hy
    rcases hy with rfl | rfl <;> rfl
  · by_cases q : y = x
    · subst q
      cases hD.symm.trans hy
      exact ⟨E', q1.1, q2.2.1, q2.1, hsz⟩
    · exact ⟨cy, q10 y cy q hy, rfl, rfl, rfl⟩
  · obtain ⟨D3, cf, k, i, f, g1, g2, g3, g4, g5, g6, g7⟩ := F
    cases hD.symm.trans g1
    simp only [RoadKit.slotOf, g2, gV, gC, Option.map_some, Option.getD_some] at n1 n2
    exact ⟨E', cf, k, i, f, q1.1, g2, g3, by rw [q2.1]; exact g4, by rw [q2.1]; exact g5, by rw [q2.2.1]; exact g6, by rw [q2.2.2 f.slot (by simp [n1, n2])]; exact g7⟩
end StrChars.Road
namespace StrChars.Road
open Jvm Sem ClassFile Op Lib Jvm.Stand Jvm.Free Jvm.Free.XT
/-- WHAT COMES BACK, the byte[] as a list of values -/
def QA (Z : State) (x : Addr) (zn : Int32) (cs : List Int32) (h : Heap) (v : Option Value) (h' : Heap) (L : List Loc) : Prop := v = none ∧ (∀ y ∈ L, y.base = x) ∧ RoadKit.Keep h h' [x] ∧ h'.size = h.size + 1 ∧ RoadKit.Exa Z h' x ST ∧ RoadKit.Fld Z h' x ST "value" "[B" (.ref h.size) ∧ RoadKit.Fld Z h' x ST "coder" "B" (.int 0) ∧
  (∃ kb, Z.vm.findClass "[B" = some kb ∧ RoadKit.Arv Z h' h.size kb .byte zn (cs.map fun c => .int (lo8 c)) (.int 0)) ∧
  ∀ (O n d : String) (w : Value), RoadKit.Fld Z h x O n d w → RoadKit.slotOf Z O n d ≠ RoadKit.slotOf Z ST "value" "[B" → RoadKit.slotOf Z O n d ≠ RoadKit.slotOf Z ST "coder" "B" → RoadKit.Fld Z h' x O n d w
/-- **new String(chars) AT A CALL, THE ARRAYS AS LISTS**: the char[] at b holds cs, not empty, no char above 255 -/
theorem backArv {p : Program} {l : Launch} {e : Env} {R : Room} {s : State} {args : Array Value} {below : List Frame} {len W : Nat} {Z : State} {a0 : Array Value} {h : Heap} (hZ : Z.Warmed39 s.vm) (hw : ∀ d ∈ words, d.before a0 Z = true) {kI : Nat} (wi : (Jvm.Cond.instantiable ST kI).before a0 Z = true)
    {x b : Addr} {k : ClassId} {zn z : Int32} {cs : List Int32} {dv v0 c0 : Value} (E : RoadKit.Exa Z h x ST) (V : RoadKit.Fld Z h x ST "value" "[B" v0) (C : RoadKit.Fld Z h x ST "coder" "B" c0) (K : RoadKit.Arv Z h b k .char zn (cs.map Value.int) dv) (S : RoadKit.Sta Z h ST "COMPACT_STRINGS" "Z" (.int z)) (hz : ¬ z = 0)
    (hlen : zn.toNatClampNeg = cs.length) (h0 : 0 < cs.length) (hbig : cs.length ≤ 536870912) (hall : ∀ c ∈ cs, ¬ 255 < c) (hfr : 4 ≤ R.frames) (hlo : W + 65 ≤ R.locals) :
    Back l R p e below s args New1.yN len W (fun P a => a = #[.ref x, .ref b] ∧ P.U.heap = h ∧ P.cells + 1 ≤ R.cells ∧ P.slots + cs.length ≤ R.slots)
      (fun P _ v B => ∃ L, QA Z x zn cs h v B.U.heap L ∧ B.locs = P.locs ++ L ∧ B.cells = P.cells + 1 ∧ B.slots = P.slots + cs.length) := by
  obtain ⟨A, K1, K2, K3, K4, K5, K6⟩ := K
  have e : A.slots.size = cs.length := K3.trans hlen
  have hat : ∀ (i : Nat) (hi : i < cs.length), A.slots[i]? = some (.int cs[i]) := fun i hi => by rw [K5 i (by omega)]; simp [List.getD_eq_getElem?_getD, hi]
  have hcv : ∀ (i : Nat) (hi : i < cs.length), cv A i = cs[i] := fun i hi => by unfold cv; rw [hat i hi]
  have hty : Typed .char A := fun i v hv => by
    have hi : i < A.slots.size := (Array.getElem?_eq_some_iff.mp hv).1
    have q := K5 i hi
    rw [hv] at q
    rw [Option.some.inj q]
    exact K6 i hi
  refine Back.mono (back hZ hw wi E V C K1 hty S hz (by omega) (by omega) (fun i hi => by rw [hcv i (by omega)]; exact hall _ (List.getElem_mem _)) hfr hlo) (fun P a hp => ⟨hp.1, hp.2.1, hp.2.2.1, by rw [e]; exact hp.2.2.2⟩) (fun P a v B hp hq => ?_)
  obtain ⟨L, ⟨q1, q2, q3, q4, q5, q6, q7, ⟨V', v1, v2, v3, v4, v5⟩, q9⟩, hl, hc, hs⟩ := hq
  refine ⟨L, ⟨q1, q2, q3, q4, q5, q6, q7, ⟨V'.cls, v3, V', v1, rfl, by rw [v4, e, hlen], K4, fun i hi => ?_, fun i hi => ?_⟩, q9⟩, hl, hc, by rw [hs, e]⟩
  · have hi' : i < cs.length := by omega
    rw [v5 i (by omega), hcv i hi']; simp [List.getD_eq_getElem?_getD, hi']
  · have hi' : i < cs.length := by omega
    simp only [List.getD_eq_getElem?_getD, List.getElem?_map, List.getElem?_eq_getElem hi', Option.map_some, Option.getD_some]
    exact fits_lo8 _
end StrChars.Road
namespace StrChars.Road
open Jvm Sem ClassFile Op Lib Jvm.Stand Jvm.Free Jvm.Free.XT
/-- WHAT COMES BACK, in the writer's own shape -/
def QV (Z : State) (x : Addr) (N : Int32) (bs : List Int32) (h : Heap) (n0 : Nat) (v : Option Value) (h' : Heap) (L : List Loc) : Prop := v = none ∧ RoadKit.Fr n0 L ∧ RoadKit.Keep h h' [x] ∧ RoadKit.Exa Z h' x ST ∧ RoadKit.Fld Z h' x ST "coder" "B" (.int 0) ∧
  ∃ (t : Addr) (kb : ClassId), n0 ≤ t ∧ h.size ≤ t ∧ ¬ t = x ∧ RoadKit.Fld Z h' x ST "value" "[B" (.ref t) ∧ RoadKit.Arv Z h' t kb .byte N (bs.map Value.int) (.int 0)
/-- **new String(chars) AT A CALL, FOR THE WRITER**: a char[] of n known ints, each 0 to 255 -/
theorem backV {p : Program} {l : Launch} {e : Env} {R : Room} {s : State} {args : Array Value} {below : List Frame} {len W : Nat} {Z : State} {a0 : Array Value} {h : Heap} (hZ : Z.Warmed39 s.vm) (hw : ∀ d ∈ words, d.before a0 Z = true) {kI : Nat} (wi : (Jvm.Cond.instantiable ST kI).before a0 Z = true)
    {x b : Addr} {kC : ClassId} {cs bs : List Int32} {d v0 c0 : Value} {z N : Int32} {n n0 : Nat} (hx0 : n0 ≤ x) (hh0 : n0 ≤ h.size) (E : RoadKit.Exa Z h x ST) (V : RoadKit.Fld Z h x ST "value" "[B" v0) (C : RoadKit.Fld Z h x ST "coder" "B" c0) (K : RoadKit.Arv Z h b kC .char N (cs.map Value.int) d) (S : RoadKit.Sta Z h ST "COMPACT_STRINGS" "Z" (.int z)) (hz : ¬ z = 0)
    (hn : cs.length = n) (hN : N = Int32.ofNat n) (l0 : 0 < n) (l2 : n ≤ 4000) (hp : ∀ c ∈ cs, ¬ c < 0 ∧ ¬ (255 : Int32) < c) (hb : bs = cs.map (fun c => c.toInt8.toInt32)) (hfr : 4 ≤ R.frames) (hlo : W + 65 ≤ R.locals) :
    Back l R p e below s args (⟨"java/lang/String", "<init>", "([C)V"⟩ : MethodName) len W (fun P a => a = #[.ref x, .ref b] ∧ P.U.heap = h ∧ P.cells + 1 ≤ R.cells ∧ P.slots + n ≤ R.slots)
      (fun P _ v B => ∃ L, QV Z x N bs h n0 v B.U.heap L ∧ B.locs = P.locs ++ L ∧ B.cells = P.cells + 1 ∧ B.slots = P.slots + n) := by
  subst hn hN hb
  refine Back.mono (backArv hZ hw wi E V C K S hz (n32 (by omega)) l0 (by omega) (fun c hc => (hp c hc).2) hfr hlo) (fun P a hp => hp) (fun P a v B hp hq => ?_)
  obtain ⟨L, ⟨q1, q2, q3, q4, q5, q6, q7, ⟨kb, v1, v2⟩, q9⟩, hl, hc, hs⟩ := hq
  exact ⟨L, ⟨q1, fun y hy => by rw [q2 y hy]; exact hx0, q3, q5, q7, h.size, kb, hh0, Nat.le_refl _, Nat.ne_of_gt E.lt, q6, by rw [List.map_map]; exact v2⟩, hl, hc, hs⟩
end StrChars.Road
end Jvm.Pilot.@@N@@
namespace Jvm.RoadKit
open Sem ClassFile Op Lib Jvm.Stand Jvm.Free Jvm.LawKit
section Own
variable {p : Program} {l : Launch} {e : Env} {R : Room} {s : State} {m : MethodId} {args : Array Value} {below : List Frame} {meth : Method} {c : Code} {T : State} {locs : List Loc} {cells slots : Nat} {Z : State} {a0 : Array Value} {h h' h0 : Heap} {ws ws' : List Addr} {Q : Option Value → Heap → List Loc → Prop} {k n : Nat}
/-- the run from U comes to an end of which G speaks -/
def OEnd (p : Program) (e : Env) (below : List Frame) (G : Outcome → State → Prop) (U : State) : Prop := ∃ t o, Steps p.tables e below U t ∧ t.status = .running ∧ Ended t below o ∧ G o t
theorem OEnd.of {G : Outcome → State → Prop} {U U' : State} (q : ∀ t, Steps p.tables e below U' t → Steps p.tables e below U t) (k : OEnd p e below G U') : OEnd p e below G U := by
  obtain ⟨t, o, h1, h2⟩ := k
  exact ⟨t, o, q t h1, h2⟩
/-- a contract's end, nothing interned -/
def GN (s : State) (Q : Option Value → Heap → List Loc → Prop) (k n : Nat) (o : Outcome) (t : State) : Prop := ∃ v L, o = .returned v ∧ Q v t.heap L ∧ FrameEnd s o t L k n
theorem OEnd.out {v : Option Value} {g : JFrame} (X : Stand p l e R s m args below meth c T locs cells slots) (hlk : meth.locks = false) (eT : T.heap = h) (hv : meth.sig.returnType = none → v = none)
    (hs : ∀ fs, (∀ (f : JFrame) (acts : List Action), f.method = m → f.locked = none → f.entered = [] → (doReturn e (T.setTop f) acts v).1 = T.setFrames fs) → Steps p.tables e below (T.setTop g) (T.setFrames fs))
    (hQ : Q v h locs) (hk : cells ≤ k) (hn : slots ≤ n) : OEnd p e below (GN s Q k n) (T.setTop g) := by
  obtain ⟨fs, hr, hrun, hended, hW, hsame⟩ := X.leave (v := v) hv hlk
  exact ⟨_, _, hs fs hr, hrun, hended, v, locs, rfl, (by show Q v T.heap locs; rw [eT]; exact hQ), ⟨v, rfl⟩, hW, hsame.mono hk hn⟩
theorem OEnd.retV {pc : Nat} {Ls : Array Slot} (X : Stand p l e R s m args below meth c T locs cells slots) (hx : p.tables.exec = Jvm.exec) (hlk : meth.locks = false) (eT : T.heap = h) (hret : meth.sig.returnType = none) (hd : decode c.code pc = .ok (.return_, 1))
    (hQ : Q none h locs) (hk : cells ≤ k) (hn : slots ≤ n) : OEnd p e below (GN s Q k n) (T.setTop (mkF m pc Ls [])) :=
  OEnd.out X hlk eT (fun _ => rfl) (fun fs hr => X.returnOut hx hret hd hr) hQ hk hn
theorem OEnd.retN {pc : Nat} {Ls : Array Slot} {z : Int32} {t : FieldType} {rest : List Value} (X : Stand p l e R s m args below meth c T locs cells slots) (hx : p.tables.exec = Jvm.exec) (hlk : meth.locks = false) (eT : T.heap = h) (hret : meth.sig.returnType = some t) (ht : t = .boolean ∨ t = .byte ∨ t = .char ∨ t = .short)
    (hd : decode c.code pc = .ok (.ireturn, 1)) (hQ : Q (some (.int (nar t z))) h locs) (hk : cells ≤ k) (hn : slots ≤ n) : OEnd p e below (GN s Q k n) (T.setTop (mkF m pc Ls (.int z :: rest))) :=
  OEnd.out X hlk eT (fun q => by rw [hret] at q; cases q) (fun fs hr => Jvm.RoadKit.retN X hx hret ht hd hr) hQ hk hn
theorem OEnd.retI {pc : Nat} {Ls : Array Slot} {z : Int32} {rest : List Value} (X : Stand p l e R s m args below meth c T locs cells slots) (hx : p.tables.exec = Jvm.exec) (hlk : meth.locks = false) (eT : T.heap = h) (hret : meth.sig.returnType = some .int)
    (hd : decode c.code pc = .ok (.ireturn, 1)) (hQ : Q (some (.int z)) h locs) (hk : cells ≤ k) (hn : slots ≤ n) : OEnd p e below (GN s Q k n) (T.setTop (mkF m pc Ls (.int z :: rest))) :=
  OEnd.out X hlk eT (fun q => by rw [hret] at q; cases q) (fun fs hr => retOut X hx hret rfl (Or.inl ⟨rfl, Or.inl rfl, z, rfl⟩) hd hr) hQ hk hn
theorem OEnd.retJ {pc : Nat} {Ls : Array Slot} {z : Int64} {rest : List Value} (X : Stand p l e R s m args below meth c T locs cells slots) (hx : p.tables.exec = Jvm.exec) (hlk : meth.locks = false) (eT : T.heap = h) (hret : meth.sig.returnType = some .long)
    (hd : decode c.code pc = .ok (.lreturn, 1)) (hQ : Q (some (.long z)) h locs) (hk : cells ≤ k) (hn : slots ≤ n) : OEnd p e below (GN s Q k n) (T.setTop (mkF m pc Ls (.long z :: rest))) :=
  OEnd.out X hlk eT (fun q => by rw [hret] at q; cases q) (fun fs hr => retOut X hx hret rfl (Or.inr (Or.inl ⟨rfl, rfl, z, rfl⟩)) hd hr) hQ hk hn
theorem own_narRef {t : FieldType} {w : Value} (hw : w.isRef = true) : narrow t w = w := by cases w <;> first | (cases hw; done) | (cases t <;> rfl)
theorem OEnd.retA {pc : Nat} {Ls : Array Slot} {w : Value} {t : FieldType} {rest : List Value} (X : Stand p l e R s m args below meth c T locs cells slots) (hx : p.tables.exec = Jvm.exec) (hlk : meth.locks = false) (eT : T.heap = h) (hret : meth.sig.returnType = some t) (ht : t.isReference = true) (hw : w.isRef = true)
    (hd : decode c.code pc = .ok (.areturn, 1)) (hQ : Q (some w) h locs) (hk : cells ≤ k) (hn : slots ≤ n) : OEnd p e below (GN s Q k n) (T.setTop (mkF m pc Ls (w :: rest))) :=
  OEnd.out X hlk eT (fun q => by rw [hret] at q; cases q) (fun fs hr => retOut X hx hret (own_narRef hw) (Or.inr (Or.inr (Or.inr (Or.inr ⟨rfl, ht, hw⟩)))) hd hr) hQ hk hn
theorem own_stV {P : Value → Prop} {v : Value} (h : v.isRef = true) (h0 : P .null) (h1 : ∀ a, P (.ref a)) : P v := by
  rcases ref_cases h with rfl | ⟨a, rfl⟩
  · exact h0
  · exact h1 a
theorem own_cat {v : Value} (h : v.isRef = true) : v.category = 1 := own_stV (P := fun z => z.category = 1) h rfl (fun _ => rfl)
theorem own_extKeep (O : Ext h0 h) (K : Keep h h' ws) (q : ∀ x ∈ ws, h0.size ≤ x) : Ext h0 h' := ⟨Nat.le_trans O.1 K.1, fun x c r => K.2.1 x c (O.2 x c r) fun z => absurd (Array.getElem?_eq_some_iff.mp r).1 (Nat.not_lt.mpr (q x z))⟩
theorem own_keepMono (K : Keep h h' ws) (q : ∀ x ∈ ws, x ∈ ws') : Keep h h' ws' := ⟨K.1, fun x c r n => K.2.1 x c r (fun z => n (q x z)), K.2.2⟩
theorem own_fitsRef {ty : FieldType} {v : Value} (hv : v.isRef = true) (ht : ty.isReference = true) : fits ty v = true := by cases v <;> first | (cases hv; done) | (cases ty <;> first | (cases ht; done) | rfl)
/-- a private method selects itself (its class can be made, so it is no interface) -/
theorem own_selPriv {y : MethodName} {nn : Nat} (hZ : Z.Warmed39 s.vm) (wi : (Cond.instantiable y.cls nn).before a0 Z = true) (wp : (Cond.privateMethod y).before a0 Z = true) (wm : (Cond.instanceMethod y).before a0 Z = true) (hy : y.cls ≠ "java/lang/invoke/MethodHandle" ∧ y.cls ≠ "java/lang/invoke/VarHandle") : (Cond.selects y.cls y y).before args s = true := by
  have wi' : (Cond.instantiable y.cls nn).before #[] s = true := mv hZ wi
  obtain ⟨cc, kk, h1, h2, -, h3, -⟩ := Cond.instantiable_spec wi'
  exact selects_self_of_private h1 h2 (by simpa using (Bool.or_eq_false_iff.mp h3).1) (Cond.privateMethod_at (mvP hZ wp (args := #[]))) (mvT hZ wm) hy
/-- an object of a class right beneath the root is none of a class K that can be made -/
theorem own_notAssign {C O K : String} {nn : Nat} (w : (Cond.superclass C O).before a0 Z = true) (wo : (Cond.noSuperclass O).before a0 Z = true) (wi : (Cond.instantiable K nn).before a0 Z = true) (h1 : C ≠ K) (h2 : O ≠ K) : ∃ c t, Z.vm.findClass C = some c ∧ Z.vm.findClass K = some t ∧ Z.vm.assignable c t = false := by
  obtain ⟨cc, hc⟩ := found_sup w
  obtain ⟨pp, kk, kp, hp, hk, hkp, hsup, hkind, -, -⟩ := Cond.superclass_spec hc w
  obtain ⟨oo, ko, ho, hko, hnone, -, -⟩ := Cond.noSuperclass_spec wo
  obtain ⟨tt, kt, ht, hkt, hkindt, hif, -⟩ := Cond.instantiable_spec wi
  cases ho.symm.trans hp
  have ne1 := ids_ne hc ht h1
  have ne2 := ids_ne ho ht h2
  have hi : kt.isInterface = false := (Bool.or_eq_false_iff.mp hif).1
  have sb : ∀ f, Z.vm.isSubclassAux f cc tt = false := fun f => by
    match f with
    | 0 => rfl
    | 1 => simp [Vm.isSubclassAux, ne1, hk, hsup]
    | f + 2 => simp [Vm.isSubclassAux, ne1, ne2, hk, hsup, hko, hnone]
  refine ⟨cc, tt, hc, ht, ?_⟩
  show Z.vm.assignableAux (255 + 1) cc tt = false
  simp [Vm.assignableAux, ne1, hk, hkt, hkind, hkindt, hi, Vm.isSubclass, sb]
end Own
end Jvm.RoadKit
namespace Jvm.RoadKit
open Sem ClassFile Op Lib Bundle Jvm.Stand Jvm.Free Jvm.LawKit Jvm.Free.SB Jvm.Free.SBG
section OwnW
variable {p : Program} {l : Launch} {e : Env} {R : Room} {s : State} {m : MethodId} {args : Array Value} {below : List Frame} {meth : Method} {c : Code} {T : State} {locs : List Loc} {cells slots : Nat} {Z : State} {a0 : Array Value} {h h' h0 : Heap} {ws ws' : List Addr} {Q : Option Value → Heap → List Loc → Prop} {k n k0 : Nat} {vm0 vm : Vm} {EL : List (String × Nat)}
/-- a contract's end, constants may have been loaded -/
def GW (s Z : State) (EL : List (String × Nat)) (Q : Option Value → Heap → List Loc → Prop) (k n : Nat) (o : Outcome) (t : State) : Prop := ∃ v L, o = .returned v ∧ Q v t.heap L ∧ CHr Z EL s.vm s.heap t.vm t.heap ∧ ReturnedEndW s o t L k n
theorem OEnd.outW {v : Option Value} {g : JFrame} (X : Stand p l e R (s.setVm vm0) m args below meth c T locs cells slots) (hlk : meth.locks = false) (eT : T.heap = h) (hh : s.heap = h0) (hS : s.Since vm0 k0) (hk0 : k0 ≤ h.size) (hEL : EW Z a0 EL) (hZ : Z.Warmed39 vm0) (HR : CHr Z EL s.vm h0 vm0 h) (hv : meth.sig.returnType = none → v = none)
    (hs : ∀ fs, (∀ (f : JFrame) (acts : List Action), f.method = m → f.locked = none → f.entered = [] → (doReturn e (T.setTop f) acts v).1 = T.setFrames fs) → Steps p.tables e below (T.setTop g) (T.setFrames fs))
    (hQ : Q v h locs) (hk : cells ≤ k) (hn : slots ≤ n) : OEnd p e below (GW s Z EL Q k n) (T.setTop g) := by
  obtain ⟨fs, hr, hrun, hended, hv', hW, hB, hsame⟩ := X.leaveW hS (by rw [eT]; exact hk0) (v := v) hv hlk
  refine ⟨_, _, hs fs hr, hrun, hended, v, locs, rfl, (by show Q v T.heap locs; rw [eT]; exact hQ), ?_, hv', hW, hB, hsame.mono hk hn⟩
  show CHr Z EL s.vm s.heap T.vm T.heap
  rw [eT, hh]
  exact HR.trans (CHv.at X hZ hEL HR.1)
theorem OEnd.retVW {pc : Nat} {Ls : Array Slot} (X : Stand p l e R (s.setVm vm0) m args below meth c T locs cells slots) (hx : p.tables.exec = Jvm.exec) (hlk : meth.locks = false) (eT : T.heap = h) (hh : s.heap = h0) (hS : s.Since vm0 k0) (hk0 : k0 ≤ h.size) (hEL : EW Z a0 EL) (hZ : Z.Warmed39 vm0) (HR : CHr Z EL s.vm h0 vm0 h) (hret : meth.sig.returnType = none) (hd : decode c.code pc = .ok (.return_, 1))
    (hQ : Q none h locs) (hk : cells ≤ k) (hn : slots ≤ n) : OEnd p e below (GW s Z EL Q k n) (T.setTop (mkF m pc Ls [])) :=
  OEnd.outW X hlk eT hh hS hk0 hEL hZ HR (fun _ => rfl) (fun fs hr => X.returnOut hx hret hd hr) hQ hk hn
theorem OEnd.retNW {pc : Nat} {Ls : Array Slot} {z : Int32} {t : FieldType} {rest : List Value} (X : Stand p l e R (s.setVm vm0) m args below meth c T locs cells slots) (hx : p.tables.exec = Jvm.exec) (hlk : meth.locks = false) (eT : T.heap = h) (hh : s.heap = h0) (hS : s.Since vm0 k0) (hk0 : k0 ≤ h.size) (hEL : EW Z a0 EL) (hZ : Z.Warmed39 vm0) (HR : CHr Z EL s.vm h0 vm0 h) (hret : meth.sig.returnType = some t) (ht : t = .boolean ∨ t = .byte ∨ t = .char ∨ t = .short)
    (hd : decode c.code pc = .ok (.ireturn, 1)) (hQ : Q (some (.int (nar t z))) h locs) (hk : cells ≤ k) (hn : slots ≤ n) : OEnd p e below (GW s Z EL Q k n) (T.setTop (mkF m pc Ls (.int z :: rest))) :=
  OEnd.outW X hlk eT hh hS hk0 hEL hZ HR (fun q => by rw [hret] at q; cases q) (fun fs hr => Jvm.RoadKit.retN X hx hret ht hd hr) hQ hk hn
theorem OEnd.retIW {pc : Nat} {Ls : Array Slot} {z : Int32} {rest : List Value} (X : Stand p l e R (s.setVm vm0) m args below meth c T locs cells slots) (hx : p.tables.exec = Jvm.exec) (hlk : meth.locks = false) (eT : T.heap = h) (hh : s.heap = h0) (hS : s.Since vm0 k0) (hk0 : k0 ≤ h.size) (hEL : EW Z a0 EL) (hZ : Z.Warmed39 vm0) (HR : CHr Z EL s.vm h0 vm0 h) (hret : meth.sig.returnType = some .int)
    (hd : decode c.code pc = .ok (.ireturn, 1)) (hQ : Q (some (.int z)) h locs) (hk : cells ≤ k) (hn : slots ≤ n) : OEnd p e below (GW s Z EL Q k n) (T.setTop (mkF m pc Ls (.int z :: rest))) :=
  OEnd.outW X hlk eT hh hS hk0 hEL hZ HR (fun q => by rw [hret] at q; cases q) (fun fs hr => retOut X hx hret rfl (Or.inl ⟨rfl, Or.inl rfl, z, rfl⟩) hd hr) hQ hk hn
theorem OEnd.retAW {pc : Nat} {Ls : Array Slot} {w : Value} {t : FieldType} {rest : List Value} (X : Stand p l e R (s.setVm vm0) m args below meth c T locs cells slots) (hx : p.tables.exec = Jvm.exec) (hlk : meth.locks = false) (eT : T.heap = h) (hh : s.heap = h0) (hS : s.Since vm0 k0) (hk0 : k0 ≤ h.size) (hEL : EW Z a0 EL) (hZ : Z.Warmed39 vm0) (HR : CHr Z EL s.vm h0 vm0 h) (hret : meth.sig.returnType = some t) (ht : t.isReference = true) (hw : w.isRef = true)
    (hd : decode c.code pc = .ok (.areturn, 1)) (hQ : Q (some w) h locs) (hk : cells ≤ k) (hn : slots ≤ n) : OEnd p e below (GW s Z EL Q k n) (T.setTop (mkF m pc Ls (w :: rest))) :=
  OEnd.outW X hlk eT hh hS hk0 hEL hZ HR (fun q => by rw [hret] at q; cases q) (fun fs hr => retOut X hx hret (own_narRef hw) (Or.inr (Or.inr (Or.inr (Or.inr ⟨rfl, ht, hw⟩)))) hd hr) hQ hk hn
/-- a String whose bytes aren't laid yet is no booked constant -/
theorem own_safeNull {x : Addr} (hal : Z.vm.Alike vm) (E : Exa Z h x "java/lang/String") (F : Fld Z h x "java/lang/String" "value" "[B" .null) : Safe Z EL vm h x := fun B => by
  obtain ⟨p, -, u, a, -, q, -, ⟨cS, ⟨⟨s1, s2, s3, ⟨cv, kv, iv, s4, s4'⟩, -, s6, -, s8, -, s10, ⟨hst, kB, hkB, comp, hkindB⟩, -⟩, -, -⟩, ⟨kS, g1, g2, -⟩, hB, -⟩, rfl | rfl⟩ := B
  · obtain ⟨cell, cf, k, i, f, f1, f2, -, -, -, -, f7⟩ := F
    cases (show h[q.sa]? = some q.sC from s1).symm.trans f1
    obtain ⟨kv', z4⟩ := ff_back (Z := Z) (U := Wst Z vm h) hal s4
    have z4' : Z.fieldFound? "java/lang/String" "value" "[B" = some (cv, kv', iv, q.fSV) := z4
    rw [f2] at z4'
    cases z4'
    rw [show q.sC.slots[q.fSV.slot]? = some (.ref q.sd) from s8] at f7
    cases f7
  · obtain ⟨cell, k, e1, e2, e3, -⟩ := E
    cases (show h[q.sd]? = some q.SA from s10).symm.trans e1
    have hB' : Z.vm.findClass "[B" = some q.SA.cls := by rw [← hal.findClass]; exact hB
    exact ids_ne (Z := Z) e2 hB' (by decide) rfl
theorem own_safeArv {x : Addr} {kk : ClassId} {ty : FieldType} {z : Int32} {vs : List Value} {d : Value} (hal : Z.vm.Alike vm) (A : Arv Z h x kk ty z vs d) (ht : ty ≠ .byte) : Safe Z EL vm h x := by
  obtain ⟨cl, A1, -⟩ := A
  exact Safe.arr hal A1 ht
end OwnW
end Jvm.RoadKit
namespace Jvm.RoadKit
open Sem ClassFile Op Lib Jvm.Stand Jvm.Free Jvm.LawKit
/-- a String of these chars, each 0 to 255 -/
def IsStr (Z : State) (h : Heap) (a : Addr) (cs : List Int32) : Prop := Exa Z h a "java/lang/String" ∧ Fld Z h a "java/lang/String" "coder" "B" (.int 0) ∧
  (∃ (t : Addr) (kb : ClassId), Fld Z h a "java/lang/String" "value" "[B" (.ref t) ∧ Arv Z h t kb .byte (Int32.ofNat cs.length) ((cs.map fun c => c.toInt8.toInt32).map Value.int) (.int 0)) ∧ (∀ c ∈ cs, ¬ c < 0 ∧ ¬ (255 : Int32) < c) ∧ cs.length ≤ 4000
theorem IsStr.keep {Z : State} {h h' : Heap} {a : Addr} {cs : List Int32} (S : IsStr Z h a cs) (K : Keep h h' []) : IsStr Z h' a cs := by
  obtain ⟨E, C, ⟨t, kb, V, A⟩, r⟩ := S
  exact ⟨E.keep K, C.keep K nin0, ⟨t, kb, V.keep K nin0, A.keep K nin0⟩, r⟩
/-- a cell that is no String and no array -/
def Apart (Z : State) (h : Heap) (x : Addr) : Prop := (∀ a, Exa Z h a "java/lang/String" → x ≠ a) ∧ ∀ (b : Addr) (k : ClassId) (ty : FieldType) (z : Int32) (vs : List Value) (d : Value), Arv Z h b k ty z vs d → x ≠ b
theorem own_apart {Z : State} {a0 : Array Value} {h : Heap} {x : Addr} {C : String} {n : Nat} (E : Exa Z h x C) (w : (Cond.instantiable C n).before a0 Z = true) (hn : C ≠ "java/lang/String") : Apart Z h x := ⟨fun _ F => Exa.ne E F hn, fun _ _ _ _ _ _ F => Exa.neArv E F w⟩
theorem IsStr.keepA {Z : State} {h h' : Heap} {a : Addr} {cs : List Int32} {ws : List Addr} (S : IsStr Z h a cs) (K : Keep h h' ws) (q : ∀ x ∈ ws, Apart Z h x) : IsStr Z h' a cs := by
  obtain ⟨E, C, ⟨t, kb, V, A⟩, r⟩ := S
  have n1 : a ∉ ws := fun z => (q a z).1 a E rfl
  have n2 : t ∉ ws := fun z => (q t z).2 t _ _ _ _ _ A rfl
  exact ⟨E.keep K, C.keep K n1, ⟨t, kb, V.keep K n1, A.keep K n2⟩, r⟩
theorem IsStr.lt {Z : State} {h : Heap} {a : Addr} {cs : List Int32} (S : IsStr Z h a cs) : a < h.size := S.1.lt
theorem own_ch {x y : Int32} (q : (x &&& 255).toUInt32.toUInt16.toUInt32.toInt32 = y) : ¬ y < 0 ∧ ¬ (255 : Int32) < y := by
  rw [i2c_mask] at q
  subst q
  have e : (x &&& 255).toInt = x.toInt % 256 := Jvm.Kit.i32_mask x 255 (k := 8) (by decide) (by decide)
  have z : (0 : Int32).toInt = 0 := rfl
  have m : (255 : Int32).toInt = 255 := rfl
  exact ⟨fun q => by have := Int32.lt_iff_toInt_lt.mp q; omega, fun q => by have := Int32.lt_iff_toInt_lt.mp q; omega⟩
theorem own_narC {y : Int32} (h : ¬ y < 0 ∧ ¬ (255 : Int32) < y) : nar .char y = y := by
  have z : (0 : Int32).toInt = 0 := rfl
  have m : (255 : Int32).toInt = 255 := rfl
  have h1 : 0 ≤ y.toInt := by have := mt Int32.lt_iff_toInt_lt.mpr h.1; omega
  have h2 : y.toInt ≤ 255 := by have := mt Int32.lt_iff_toInt_lt.mpr h.2; omega
  have e : y &&& 255 = y := Int32.toInt_inj.mp (by
    rw [Jvm.Kit.i32_mask y 255 (k := 8) (by decide) (by decide)]
    omega)
  have q := i2c_mask y
  rw [e] at q
  exact q
theorem own_nar8 (x : Int32) : nar .byte x.toInt8.toInt32 = x.toInt8.toInt32 := by
  show x.toInt8.toInt32.toInt8.toInt32 = _
  simp
theorem own_up {cs : List Int32} (h : ∀ c ∈ cs, ¬ c < 0 ∧ ¬ (255 : Int32) < c) : ∀ c ∈ cs, ¬ c < 0 ∧ ¬ (65535 : Int32) < c := fun c hc => ⟨(h c hc).1, fun q => (h c hc).2 (Int32.lt_trans (by decide) q)⟩
theorem own_eqv {v : Option Value} {P : Prop} (h : (v = some (.int 1) ∧ P) ∨ (v = some (.int 0) ∧ ¬ P)) : ∃ bb : Int32, v = some (.int bb) ∧ ((bb = 1 ∧ P) ∨ (bb = 0 ∧ ¬ P)) := by
  rcases h with ⟨h, p⟩ | ⟨h, p⟩
  · exact ⟨1, h, Or.inl ⟨rfl, p⟩⟩
  · exact ⟨0, h, Or.inr ⟨rfl, p⟩⟩
theorem own_same {b e : Int32} {P : Prop} (h1 : (b = 1 ∧ P) ∨ (b = 0 ∧ ¬ P)) (h2 : (e = 1 ∧ P) ∨ (e = 0 ∧ ¬ P)) : b = e := by
  rcases h1 with ⟨rfl, p⟩ | ⟨rfl, p⟩
  · rcases h2 with ⟨rfl, q⟩ | ⟨rfl, q⟩
    · rfl
    · exact absurd p q
  · rcases h2 with ⟨rfl, q⟩ | ⟨rfl, q⟩
    · exact absurd q p
    · rfl
end Jvm.RoadKit
namespace Jvm.Pilot.@@N@@
open Jvm Jvm.ClassFile Sem Op Lib Jvm.Free Jvm.Stand Jvm.LawKit Jvm.RoadKit Bundle Jvm.Pilot.@@N@@.Jvm.D
abbrev EL : List (String × Nat) := [("java/lang/String", 7)]
theorem own_strAtoms : ∀ d ∈ Bundle.stringAtoms, d ∈ tables_1 := by decide +kernel
theorem own_strWords : ∀ d ∈ StrChars.Road.words, d ∈ tables_1 := by decide +kernel
theorem own_ordOf {args : Array Value} {s : State} {t : Term} {k : Addr} {C n d : String} {a : Int32} (e : t.eval args s none [] s = some (.ref k)) (h : (Jvm.Cond.eq (Term.field t C n d) (Term.int a)).value args s none s [] = some true) : s.fieldOf? k C n d = some (.int a) := by
  obtain ⟨u, v, h1, h2, h3, h4⟩ := cmp_v (Or.inl h)
  have hv : v = .int a := (Option.some.inj ((Term.int_eval (a)).symm.trans h2)).symm
  subst hv
  rw [fld_at e] at h1
  obtain ⟨z, rfl⟩ : ∃ z, u = .int z := by cases u <;> first | exact ⟨_, rfl⟩ | (obtain ⟨w, q⟩ := h3; cases q) | (cases h3.2)
  have q := Cond.eq_ints (a := Term.field t C n d) (b := Term.int a) ((fld_at e).trans h1) (Term.int_eval (a)) |>.symm.trans h
  have q' : z = a := by simpa using q
  rw [h1, q']
theorem own_ordNe {s : State} {k k' : Addr} {C n d : String} {a b : Int32} (h1 : s.fieldOf? k C n d = some (.int a)) (h2 : s.fieldOf? k' C n d = some (.int b)) (hn : a ≠ b) : k ≠ k' := fun q => by
  subst q
  rw [h1] at h2
  exact hn (Value.int.inj (Option.some.inj h2))
theorem own_lit_ : (∀ c ∈ "".toList, c.toNat < 256) ∧ "".toList.map (fun c => Value.int (Jvm.Lit.byteI c.toNat.toUInt16)) = [] := ⟨by decide, by decide +kernel⟩
theorem d2_0 : decode jdk_42_method_149_code 0 = .ok (.aload_n 0, 1) := by decide +kernel
theorem d2_1 : decode jdk_42_method_149_code 1 = .ok (.invokespecial 1, 3) := by decide +kernel
theorem d2_4 : decode jdk_42_method_149_code 4 = .ok (.iload_n 3, 1) := by decide +kernel
theorem d2_5 : decode jdk_42_method_149_code 5 = .ok (.ifCond .ne 22, 3) := by decide +kernel
theorem d2_8 : decode jdk_42_method_149_code 8 = .ok (.aload_n 0, 1) := by decide +kernel
theorem d2_9 : decode jdk_42_method_149_code 9 = .ok (.ldc 7, 2) := by decide +kernel
theorem d2_11 : decode jdk_42_method_149_code 11 = .ok (.getfield 9, 3) := by decide +kernel
theorem d2_14 : decode jdk_42_method_149_code 14 = .ok (.putfield 9, 3) := by decide +kernel
theorem d2_17 : decode jdk_42_method_149_code 17 = .ok (.aload_n 0, 1) := by decide +kernel
theorem d2_18 : decode jdk_42_method_149_code 18 = .ok (.ldc 7, 2) := by decide +kernel
theorem d2_20 : decode jdk_42_method_149_code 20 = .ok (.getfield 15, 3) := by decide +kernel
theorem d2_23 : decode jdk_42_method_149_code 23 = .ok (.putfield 15, 3) := by decide +kernel
theorem d2_26 : decode jdk_42_method_149_code 26 = .ok (.return_, 1) := by decide +kernel
theorem pn_java_lang_String : plainName "java/lang/String" = true := by first | (simp [plainName, overriddenIn]; done) | decide +kernel
abbrev RMrmS4e : Room := { frames := 1, cells := 4, slots := 8, locals := 12 }
theorem ef_rmS4e (m : MethodId) (a1 : Addr) (a2 : Addr) : entryFrame m #[(.ref a1), (.ref a2), (.int (0 : Int32)), (.int (0 : Int32)), .null] 6 = mkF m 0 #[.val (.ref a1), .val (.ref a2), .val (.int (0 : Int32)), .val (.int (0 : Int32)), .val .null, .unset] [] := by first | (simp [entryFrame, mkF, argsToLocals, Value.category]; done) | rfl
def QrmS4e (Z : State) (zc : Int32) (k_WORD : Addr) (k_QUOTED_NAME : Addr) (k_STRING : Addr) (k_NUMBER : Addr) (k_SYMBOL : Addr) (k_END : Addr) (a1 : Addr) (a2 : Addr) (h0 : Heap) (v : Option Value) (h : Heap) (L : List Loc) : Prop := v = none ∧ Fr Z.heap.size L ∧ Keep h0 h [a1] ∧ IsStr Z h a1 []
set_option maxRecDepth 65536 in
set_option maxHeartbeats 40000000 in
theorem rmS4e (l : Launch) (Z : State) (a0 : Array Value) (hw : ∀ d ∈ tables_1, d.before a0 Z = true) (zc : Int32) (k_WORD : Addr) (k_QUOTED_NAME : Addr) (k_STRING : Addr) (k_NUMBER : Addr) (k_SYMBOL : Addr) (k_END : Addr) (S_CS : Sta Z Z.heap "java/lang/String" "COMPACT_STRINGS" "Z" (.int zc)) (hzc : ¬ zc = 0) (S_WORD : Sta Z Z.heap "com/example/orderly_schema/orderlyschema/input/SqlTokenizer$Kind" "WORD" "Lcom/example/orderly_schema/orderlyschema/input/SqlTokenizer$Kind;" (.ref k_WORD)) (S_QUOTED_NAME : Sta Z Z.heap "com/example/orderly_schema/orderlyschema/input/SqlTokenizer$Kind" "QUOTED_NAME" "Lcom/example/orderly_schema/orderlyschema/input/SqlTokenizer$Kind;" (.ref k_QUOTED_NAME)) (S_STRING : Sta Z Z.heap "com/example/orderly_schema/orderlyschema/input/SqlTokenizer$Kind" "STRING" "Lcom/example/orderly_schema/orderlyschema/input/SqlTokenizer$Kind;" (.ref k_STRING)) (S_NUMBER : Sta Z Z.heap "com/example/orderly_schema/orderlyschema/input/SqlTokenizer$Kind" "NUMBER" "Lcom/example/orderly_schema/orderlyschema/input/SqlTokenizer$Kind;" (.ref k_NUMBER)) (S_SYMBOL : Sta Z Z.heap "com/example/orderly_schema/orderlyschema/input/SqlTokenizer$Kind" "SYMBOL" "Lcom/example/orderly_schema/orderlyschema/input/SqlTokenizer$Kind;" (.ref k_SYMBOL)) (S_END : Sta Z Z.heap "com/example/orderly_schema/orderlyschema/input/SqlTokenizer$Kind" "END" "Lcom/example/orderly_schema/orderlyschema/input/SqlTokenizer$Kind;" (.ref k_END)) (ne_STRING_WORD : k_STRING ≠ k_WORD) (ne_STRING_QUOTED_NAME : k_STRING ≠ k_QUOTED_NAME) (ne_NUMBER_WORD : k_NUMBER ≠ k_WORD) (ne_NUMBER_QUOTED_NAME : k_NUMBER ≠ k_QUOTED_NAME) (ne_SYMBOL_WORD : k_SYMBOL ≠ k_WORD) (ne_SYMBOL_QUOTED_NAME : k_SYMBOL ≠ k_QUOTED_NAME) (ne_END_WORD : k_END ≠ k_WORD) (ne_END_QUOTED_NAME : k_END ≠ k_QUOTED_NAME) (hEL : EW Z a0 EL) (ws : List Jvm.Cond) (a1 : Addr) (a2 : Addr) (h0 : Heap) (O0 : Ext Z.heap h0) (E1 : Exa Z h0 a1 "java/lang/String") (Fv : Fld Z h0 a1 "java/lang/String" "value" "[B" .null) (Fc : Fld Z h0 a1 "java/lang/String" "coder" "B" (.int (0 : Int32))) (g1 : Z.heap.size ≤ a1) :
    MetFree l (⟨"java/lang/String", "<init>", "([CIILjava/lang/Void;)V"⟩ : MethodName) (head1 (Jvm.Cond.code (⟨"java/lang/String", "<init>", "([CIILjava/lang/Void;)V"⟩ : MethodName) jdk_42_method_149_code 6 none :: ws) RMrmS4e) (fun a U => a = #[(.ref a1), (.ref a2), (.int (0 : Int32)), (.int (0 : Int32)), .null] ∧ Z.Warmed39 U.vm ∧ U.heap = h0 ∧ CHv Z EL U.vm h0) (fun _ _ _ _ _ => True) (fun _ U o U' => ∃ v L, o = .returned v ∧ QrmS4e Z zc k_WORD k_QUOTED_NAME k_STRING k_NUMBER k_SYMBOL k_END a1 a2 h0 v U'.heap L ∧ CHr Z EL U.vm U.heap U'.vm U'.heap ∧ ReturnedEndW U o U' L RMrmS4e.cells RMrmS4e.slots) := by
  refine MetFree.of_bodySF (plainFor_of_name pn_java_lang_String) hisR ?_
  intro p e s m args below meth c s₁ Bd hml0 hP hK
  obtain ⟨rfl, hZ, hh, hC0⟩ := hP
  have hx := Bd.exec
  have hby := Bd.bytes
  have hlk : meth.locks = false := BodyLoose.notSynchronized Bd
  have hret := Bd.returns
  have hml : c.maxLocals = 6 := hml0
  have hown : s.vm.findClass "java/lang/String" = some m.cls := findClass_of_methodNamed Bd.named
  have hnm := (name_of_methodNamed Bd.named Bd.method).1
  have X0 : Stand p l e RMrmS4e (s.setVm s.vm) m #[(.ref a1), (.ref a2), (.int (0 : Int32)), (.int (0 : Int32)), .null] below meth c s₁ [] 0 0 := Stand.of_body Bd
  have e0 : s₁.heap = h0 := by rw [← hh, Bd.state]; rfl
  have N0 := Fr.nil Z.heap.size
  have hZ : Z.Warmed39 (s.setVm s.vm).vm := hZ
  have hS0 : s.Since s.vm h0.size := (State.WarmedH.refl s).since _
  have hk0 : h0.size ≤ h0.size := Nat.le_refl _
  have HR0 : CHr Z EL s.vm h0 s.vm h0 := CHr.refl hC0
  have hwS : ∀ d ∈ Bundle.stringAtoms, d.before a0 Z = true := fun d hd => hw d (own_strAtoms d hd)
  show OEnd p e below (GW s Z EL (QrmS4e Z zc k_WORD k_QUOTED_NAME k_STRING k_NUMBER k_SYMBOL k_END a1 a2 h0) RMrmS4e.cells RMrmS4e.slots) _
  refine OEnd.of (fun t k => castTop (ef_rmS4e m a1 a2) k) ?_
  have Sf1 : Safe Z EL s.vm h0 a1 := own_safeNull hZ.alike E1 Fv
  have lt2 : a1 < h0.size := (E1).lt
  refine OEnd.of (fun t k => XS.aloadN X0.here hx rfl (hb hby d2_0) rfl rfl k) ?_
  show OEnd p e below _ (s₁.setTop (mkF m 1 #[.val (.ref a1), .val (.ref a2), .val (.int (0 : Int32)), .val (.int (0 : Int32)), .val .null, .unset] [(.ref a1)]))
  obtain ⟨T3, X3, e3, st3⟩ := initO X0 hx hZ hown (hw _ (List.mem_of_getElem? (i := 12) rfl)) (hw _ (List.mem_of_getElem? (i := 13) rfl)) (hw _ (List.mem_of_getElem? (i := 14) rfl)) e0 (g := (mkF m 1 #[.val (.ref a1), .val (.ref a2), .val (.int (0 : Int32)), .val (.int (0 : Int32)), .val .null, .unset] [(.ref a1)])) rfl (by rw [hml]; rfl) rfl (hb hby d2_1) (by decide) (W := 0) (by show 2 * 0 + _ ≤ _; exact Nat.le_of_eq rfl) (by decide)
  refine OEnd.of st3 ?_
  show OEnd p e below _ (T3.setTop (mkF m 4 #[.val (.ref a1), .val (.ref a2), .val (.int (0 : Int32)), .val (.int (0 : Int32)), .val .null, .unset] []))
  refine OEnd.of (fun t k => XS.iloadN X3.here hx rfl (hb hby d2_4) rfl k) ?_
  show OEnd p e below _ (T3.setTop (mkF m 5 #[.val (.ref a1), .val (.ref a2), .val (.int (0 : Int32)), .val (.int (0 : Int32)), .val .null, .unset] [(.int (0 : Int32))]))
  refine OEnd.of (fun t k => XS.ifNo X3.here hx rfl (hb hby d2_5) rfl ((if0 _ _).trans (teq (by decide : ((0 : Int32) = (0 : Int32)))).2) k) ?_
  show OEnd p e below _ (T3.setTop (mkF m 8 #[.val (.ref a1), .val (.ref a2), .val (.int (0 : Int32)), .val (.int (0 : Int32)), .val .null, .unset] []))
  refine OEnd.of (fun t k => XS.aloadN X3.here hx rfl (hb hby d2_8) rfl rfl k) ?_
  show OEnd p e below _ (T3.setTop (mkF m 9 #[.val (.ref a1), .val (.ref a2), .val (.int (0 : Int32)), .val (.int (0 : Int32)), .val .null, .unset] [(.ref a1)]))
  obtain ⟨ba4, T4, h4, k14, bb4, kb4, X4, e4, E4, S4, hk4, hZ4, hown4, Ex4, Cd4, Vl4, Ar4, lta4, ltb4, C4, Lt4, Sn4, st4⟩ := ldcCH X3 hx hZ hown (hw _ (List.mem_of_getElem? (i := 66) rfl)) hwS e3 hS0 hk0 hEL (List.mem_of_getElem? (i := 0) rfl) HR0.1 (vs := []) (z := (0 : Int32)) own_lit_ (by decide) (by decide) (g := (mkF m 9 #[.val (.ref a1), .val (.ref a2), .val (.int (0 : Int32)), .val (.int (0 : Int32)), .val .null, .unset] [(.ref a1)])) rfl (hb hby d2_9) (n := 0) (by decide) (by decide) (by decide) (by decide)
  refine OEnd.of st4 ?_
  have CR5 : CHr Z EL s.vm h0 T4.vm h4 := C4
  have HR6 : CHr Z EL s.vm h0 T4.vm h4 := HR0.trans CR5
  have Sf7 : Safe Z EL T4.vm h4 a1 := CR5.safe lt2 Sf1
  show OEnd p e below _ (T4.setTop (mkF m 11 #[.val (.ref a1), .val (.ref a2), .val (.int (0 : Int32)), .val (.int (0 : Int32)), .val .null, .unset] [(.ref ba4), (.ref a1)]))
  obtain ⟨T8, X8, e8, st8⟩ := getF X4 hx hZ4 hown4 (host := "") (Or.inl (hw _ (List.mem_of_getElem? (i := 29) rfl))) Via.refl e4 Vl4 (g := (mkF m 11 #[.val (.ref a1), .val (.ref a2), .val (.int (0 : Int32)), .val (.int (0 : Int32)), .val .null, .unset] [(.ref ba4), (.ref a1)])) rfl rfl (hb hby d2_11)
  refine OEnd.of st8 ?_
  show OEnd p e below _ (T8.setTop (mkF m 14 #[.val (.ref a1), .val (.ref a2), .val (.int (0 : Int32)), .val (.int (0 : Int32)), .val .null, .unset] [(.ref bb4), (.ref a1)]))
  have K9 : Keep h0 h4 [] := ((Keep.refl h0 []).ext E4)
  obtain ⟨T10, h10, X10, e10, W10, st10⟩ := putF X8 hx hZ4 hown4 (host := "") (Or.inl (hw _ (List.mem_of_getElem? (i := 29) rfl))) Via.refl e8 (Fv.keep K9 nin0) (E1.keep K9) (Or.inr ⟨(hw _ (List.mem_of_getElem? (i := 30) rfl)), rfl, hnm⟩) (hw _ (List.mem_of_getElem? (i := 3) rfl)) (ty := (.array .byte)) (by decide) rfl rfl (g := (mkF m 14 #[.val (.ref a1), .val (.ref a2), .val (.int (0 : Int32)), .val (.int (0 : Int32)), .val .null, .unset] [(.ref bb4), (.ref a1)])) rfl rfl (hb hby d2_14)
  refine OEnd.of st10 ?_
  have F11 : Fld Z h10 a1 "java/lang/String" "value" "[B" (.ref bb4) := Fld.same W10 (Fv.keep K9 nin0)
  have E12 : Exa Z h10 a1 "java/lang/String" := (E1.keep K9).wr W10
  have F13 : Fld Z h10 a1 "java/lang/String" "coder" "B" (.int (0 : Int32)) := (Fc.keep K9 nin0).other W10 (Or.inr (slot_ne (Or.inr (hw _ (List.mem_of_getElem? (i := 28) rfl))) (Or.inr (hw _ (List.mem_of_getElem? (i := 30) rfl))) (by decide) (t := .byte) (t' := (.array .byte)) (by decide) (by decide)))
  have N14 := Fr.snoc X10 N0 g1
  have CR15 : CHr Z EL T4.vm h4 T4.vm h10 := CHr.wr W10 Sf7 HR6.1
  have HR16 : CHr Z EL s.vm h0 T4.vm h10 := HR6.trans CR15
  have Sf17 : Safe Z EL T4.vm h10 a1 := CR15.safe (Nat.lt_of_lt_of_le lt2 K9.1) Sf7
  show OEnd p e below _ (T10.setTop (mkF m 17 #[.val (.ref a1), .val (.ref a2), .val (.int (0 : Int32)), .val (.int (0 : Int32)), .val .null, .unset] []))
  refine OEnd.of (fun t k => XS.aloadN X10.here hx rfl (hb hby d2_17) rfl rfl k) ?_
  show OEnd p e below _ (T10.setTop (mkF m 18 #[.val (.ref a1), .val (.ref a2), .val (.int (0 : Int32)), .val (.int (0 : Int32)), .val .null, .unset] [(.ref a1)]))
  have K19 : Keep h4 h10 [a1] := ((Keep.refl h4 [a1]).wr W10 (Or.inl (List.mem_of_getElem? (i := 0) rfl)))
  obtain ⟨ba18, T18, h18, k118, bb18, kb18, X18, e18, E18, S18, hk18, hZ18, hown18, Ex18, Cd18, Vl18, Ar18, lta18, ltb18, C18, Lt18, Sn18, st18⟩ := ldcCH X10 hx hZ4 hown4 (hw _ (List.mem_of_getElem? (i := 66) rfl)) hwS e10 S4 (Nat.le_trans hk4 K19.1) hEL (List.mem_of_getElem? (i := 0) rfl) HR16.1 (vs := []) (z := (0 : Int32)) own_lit_ (by decide) (by decide) (g := (mkF m 18 #[.val (.ref a1), .val (.ref a2), .val (.int (0 : Int32)), .val (.int (0 : Int32)), .val .null, .unset] [(.ref a1)])) rfl (hb hby d2_18) (n := 0) (by decide) (by decide) (by decide) (by decide)
  refine OEnd.of st18 ?_
  have CR20 : CHr Z EL T4.vm h10 T18.vm h18 := C18
  have HR21 : CHr Z EL s.vm h0 T18.vm h18 := HR16.trans CR20
  have K22 : Keep h0 h10 [a1] := (((Keep.refl h0 [a1]).ext E4).wr W10 (Or.inl (List.mem_of_getElem? (i := 0) rfl)))
  have Sf23 : Safe Z EL T18.vm h18 a1 := CR20.safe (Nat.lt_of_lt_of_le lt2 K22.1) Sf17
  show OEnd p e below _ (T18.setTop (mkF m 20 #[.val (.ref a1), .val (.ref a2), .val (.int (0 : Int32)), .val (.int (0 : Int32)), .val .null, .unset] [(.ref ba18), (.ref a1)]))
  obtain ⟨T24, X24, e24, st24⟩ := getF X18 hx hZ18 hown18 (host := "") (Or.inl (hw _ (List.mem_of_getElem? (i := 27) rfl))) Via.refl e18 Cd18 (g := (mkF m 20 #[.val (.ref a1), .val (.ref a2), .val (.int (0 : Int32)), .val (.int (0 : Int32)), .val .null, .unset] [(.ref ba18), (.ref a1)])) rfl rfl (hb hby d2_20)
  refine OEnd.of st24 ?_
  show OEnd p e below _ (T24.setTop (mkF m 23 #[.val (.ref a1), .val (.ref a2), .val (.int (0 : Int32)), .val (.int (0 : Int32)), .val .null, .unset] [(.int (0 : Int32)), (.ref a1)]))
  have K25 : Keep h10 h18 [] := ((Keep.refl h10 []).ext E18)
  obtain ⟨T26, h26, X26, e26, W26, st26⟩ := putFN X24 hx hZ18 hown18 (hw _ (List.mem_of_getElem? (i := 27) rfl)) Via.refl e24 (F13.keep K25 nin0) (E12.keep K25) (Or.inr ⟨(hw _ (List.mem_of_getElem? (i := 28) rfl)), rfl, hnm⟩) (hw _ (List.mem_of_getElem? (i := 3) rfl)) (ty := .byte) (v' := (.int (0 : Int32))) (by decide) rfl (by decide) (g := (mkF m 23 #[.val (.ref a1), .val (.ref a2), .val (.int (0 : Int32)), .val (.int (0 : Int32)), .val .null, .unset] [(.int (0 : Int32)), (.ref a1)])) rfl rfl (hb hby d2_23)
  refine OEnd.of st26 ?_
  have F27 : Fld Z h26 a1 "java/lang/String" "coder" "B" (.int (0 : Int32)) := Fld.same W26 (F13.keep K25 nin0)
  have E28 : Exa Z h26 a1 "java/lang/String" := (E12.keep K25).wr W26
  have F29 : Fld Z h26 a1 "java/lang/String" "value" "[B" (.ref bb4) := (F11.keep K25 nin0).other W26 (Or.inr (slot_ne (Or.inr (hw _ (List.mem_of_getElem? (i := 30) rfl))) (Or.inr (hw _ (List.mem_of_getElem? (i := 28) rfl))) (by decide) (t := (.array .byte)) (t' := .byte) (by decide) (by decide)))
  have N30 := Fr.snoc X26 N14 g1
  have CR31 : CHr Z EL T18.vm h18 T18.vm h26 := CHr.wr W26 Sf23 HR21.1
  have HR32 : CHr Z EL s.vm h0 T18.vm h26 := HR21.trans CR31
  have K33 : Keep h0 h18 [a1] := (K22.ext E18)
  have Sf34 : Safe Z EL T18.vm h26 a1 := CR31.safe (Nat.lt_of_lt_of_le lt2 K33.1) Sf23
  show OEnd p e below _ (T26.setTop (mkF m 26 #[.val (.ref a1), .val (.ref a2), .val (.int (0 : Int32)), .val (.int (0 : Int32)), .val .null, .unset] []))
  have K35 : Keep h4 h26 [a1] := ((K19.ext E18).wr W26 (Or.inl (List.mem_of_getElem? (i := 0) rfl)))
  have K36 : Keep h0 h26 [a1] := (K33.wr W26 (Or.inl (List.mem_of_getElem? (i := 0) rfl)))
  have K37 : Keep h18 h26 [a1] := ((Keep.refl h18 [a1]).wr W26 (Or.inl (List.mem_of_getElem? (i := 0) rfl)))
  exact OEnd.retVW X26 hx hlk e26 hh S18 (Nat.le_trans hk18 K37.1) hEL hZ18 HR32 hret (hb hby d2_26) ⟨rfl, N30, K36, ⟨E28, F27, ⟨bb4, kb4, F29, (Ar4.keep K35 (ninS (Ne.symm (Sn4 _ Sf7).2) nin0))⟩, (fun _ q => nomatch q), by decide⟩⟩ (by decide) (by decide)
theorem pd_285bCIILjava2flang2fVoid3b29V : parseMethodDescriptor "([CIILjava/lang/Void;)V" = some ⟨[(.array .char), .int, .int, (.object "java/lang/Void")], none⟩ := by decide +kernel
theorem d1_0 : decode jdk_42_method_3_code 0 = .ok (.aload_n 0, 1) := by decide +kernel
theorem d1_1 : decode jdk_42_method_3_code 1 = .ok (.aload_n 1, 1) := by decide +kernel
theorem d1_2 : decode jdk_42_method_3_code 2 = .ok (.iconst 0, 1) := by decide +kernel
theorem d1_3 : decode jdk_42_method_3_code 3 = .ok (.aload_n 1, 1) := by decide +kernel
theorem d1_4 : decode jdk_42_method_3_code 4 = .ok (.arraylength, 1) := by decide +kernel
theorem d1_5 : decode jdk_42_method_3_code 5 = .ok (.aconst_null, 1) := by decide +kernel
theorem d1_6 : decode jdk_42_method_3_code 6 = .ok (.invokespecial 27, 3) := by decide +kernel
theorem d1_9 : decode jdk_42_method_3_code 9 = .ok (.return_, 1) := by decide +kernel
abbrev RMrmS1e : Room := { frames := 2, cells := 4, slots := 8, locals := 29 }
theorem ef_rmS1e (m : MethodId) (a1 : Addr) (a2 : Addr) : entryFrame m #[(.ref a1), (.ref a2)] 2 = mkF m 0 #[.val (.ref a1), .val (.ref a2)] [] := by first | (simp [entryFrame, mkF, argsToLocals, Value.category]; done) | rfl
def QrmS1e (Z : State) (zc : Int32) (k_WORD : Addr) (k_QUOTED_NAME : Addr) (k_STRING : Addr) (k_NUMBER : Addr) (k_SYMBOL : Addr) (k_END : Addr) (a1 : Addr) (a2 : Addr) (kk : ClassId) (h0 : Heap) (v : Option Value) (h : Heap) (L : List Loc) : Prop := v = none ∧ Fr Z.heap.size L ∧ Keep h0 h [a1] ∧ IsStr Z h a1 []
set_option maxRecDepth 65536 in
set_option maxHeartbeats 40000000 in
theorem rmS1e (l : Launch) (Z : State) (a0 : Array Value) (hw : ∀ d ∈ tables_1, d.before a0 Z = true) (zc : Int32) (k_WORD : Addr) (k_QUOTED_NAME : Addr) (k_STRING : Addr) (k_NUMBER : Addr) (k_SYMBOL : Addr) (k_END : Addr) (S_CS : Sta Z Z.heap "java/lang/String" "COMPACT_STRINGS" "Z" (.int zc)) (hzc : ¬ zc = 0) (S_WORD : Sta Z Z.heap "com/example/orderly_schema/orderlyschema/input/SqlTokenizer$Kind" "WORD" "Lcom/example/orderly_schema/orderlyschema/input/SqlTokenizer$Kind;" (.ref k_WORD)) (S_QUOTED_NAME : Sta Z Z.heap "com/example/orderly_schema/orderlyschema/input/SqlTokenizer$Kind" "QUOTED_NAME" "Lcom/example/orderly_schema/orderlyschema/input/SqlTokenizer$Kind;" (.ref k_QUOTED_NAME)) (S_STRING : Sta Z Z.heap "com/example/orderly_schema/orderlyschema/input/SqlTokenizer$Kind" "STRING" "Lcom/example/orderly_schema/orderlyschema/input/SqlTokenizer$Kind;" (.ref k_STRING)) (S_NUMBER : Sta Z Z.heap "com/example/orderly_schema/orderlyschema/input/SqlTokenizer$Kind" "NUMBER" "Lcom/example/orderly_schema/orderlyschema/input/SqlTokenizer$Kind;" (.ref k_NUMBER)) (S_SYMBOL : Sta Z Z.heap "com/example/orderly_schema/orderlyschema/input/SqlTokenizer$Kind" "SYMBOL" "Lcom/example/orderly_schema/orderlyschema/input/SqlTokenizer$Kind;" (.ref k_SYMBOL)) (S_END : Sta Z Z.heap "com/example/orderly_schema/orderlyschema/input/SqlTokenizer$Kind" "END" "Lcom/example/orderly_schema/orderlyschema/input/SqlTokenizer$Kind;" (.ref k_END)) (ne_STRING_WORD : k_STRING ≠ k_WORD) (ne_STRING_QUOTED_NAME : k_STRING ≠ k_QUOTED_NAME) (ne_NUMBER_WORD : k_NUMBER ≠ k_WORD) (ne_NUMBER_QUOTED_NAME : k_NUMBER ≠ k_QUOTED_NAME) (ne_SYMBOL_WORD : k_SYMBOL ≠ k_WORD) (ne_SYMBOL_QUOTED_NAME : k_SYMBOL ≠ k_QUOTED_NAME) (ne_END_WORD : k_END ≠ k_WORD) (ne_END_QUOTED_NAME : k_END ≠ k_QUOTED_NAME) (hEL : EW Z a0 EL) (ws : List Jvm.Cond) (a1 : Addr) (a2 : Addr) (kk : ClassId) (h0 : Heap) (O0 : Ext Z.heap h0) (E1 : Exa Z h0 a1 "java/lang/String") (Fv : Fld Z h0 a1 "java/lang/String" "value" "[B" .null) (Fc : Fld Z h0 a1 "java/lang/String" "coder" "B" (.int (0 : Int32))) (g1 : Z.heap.size ≤ a1) (A2 : Arv Z h0 a2 kk .char (0 : Int32) [] (.int (0 : Int32))) :
    MetFree l (⟨"java/lang/String", "<init>", "([C)V"⟩ : MethodName) (head1 (Jvm.Cond.code (⟨"java/lang/String", "<init>", "([C)V"⟩ : MethodName) jdk_42_method_3_code 2 none :: ws) RMrmS1e) (fun a U => a = #[(.ref a1), (.ref a2)] ∧ Z.Warmed39 U.vm ∧ U.heap = h0 ∧ CHv Z EL U.vm h0) (fun _ _ _ _ _ => True) (fun _ U o U' => ∃ v L, o = .returned v ∧ QrmS1e Z zc k_WORD k_QUOTED_NAME k_STRING k_NUMBER k_SYMBOL k_END a1 a2 kk h0 v U'.heap L ∧ CHr Z EL U.vm U.heap U'.vm U'.heap ∧ ReturnedEndW U o U' L RMrmS1e.cells RMrmS1e.slots) := by
  refine MetFree.of_bodySF (plainFor_of_name pn_java_lang_String) hisR ?_
  intro p e s m args below meth c s₁ Bd hml0 hP hK
  obtain ⟨rfl, hZ, hh, hC0⟩ := hP
  have hx := Bd.exec
  have hby := Bd.bytes
  have hlk : meth.locks = false := BodyLoose.notSynchronized Bd
  have hret := Bd.returns
  have hml : c.maxLocals = 2 := hml0
  have hown : s.vm.findClass "java/lang/String" = some m.cls := findClass_of_methodNamed Bd.named
  have hnm := (name_of_methodNamed Bd.named Bd.method).1
  have X0 : Stand p l e RMrmS1e (s.setVm s.vm) m #[(.ref a1), (.ref a2)] below meth c s₁ [] 0 0 := Stand.of_body Bd
  have e0 : s₁.heap = h0 := by rw [← hh, Bd.state]; rfl
  have N0 := Fr.nil Z.heap.size
  have hZ : Z.Warmed39 (s.setVm s.vm).vm := hZ
  have hS0 : s.Since s.vm h0.size := (State.WarmedH.refl s).since _
  have hk0 : h0.size ≤ h0.size := Nat.le_refl _
  have HR0 : CHr Z EL s.vm h0 s.vm h0 := CHr.refl hC0
  have hwS : ∀ d ∈ Bundle.stringAtoms, d.before a0 Z = true := fun d hd => hw d (own_strAtoms d hd)
  show OEnd p e below (GW s Z EL (QrmS1e Z zc k_WORD k_QUOTED_NAME k_STRING k_NUMBER k_SYMBOL k_END a1 a2 kk h0) RMrmS1e.cells RMrmS1e.slots) _
  refine OEnd.of (fun t k => castTop (ef_rmS1e m a1 a2) k) ?_
  refine OEnd.of (fun t k => XS.aloadN X0.here hx rfl (hb hby d1_0) rfl rfl k) ?_
  show OEnd p e below _ (s₁.setTop (mkF m 1 #[.val (.ref a1), .val (.ref a2)] [(.ref a1)]))
  refine OEnd.of (fun t k => XS.aloadN X0.here hx rfl (hb hby d1_1) rfl rfl k) ?_
  show OEnd p e below _ (s₁.setTop (mkF m 2 #[.val (.ref a1), .val (.ref a2)] [(.ref a2), (.ref a1)]))
  refine OEnd.of (fun t k => XS.iconst X0.here hx rfl (hb hby d1_2) k) ?_
  show OEnd p e below _ (s₁.setTop (mkF m 3 #[.val (.ref a1), .val (.ref a2)] [(.int (0 : Int32)), (.ref a2), (.ref a1)]))
  refine OEnd.of (fun t k => XS.aloadN X0.here hx rfl (hb hby d1_3) rfl rfl k) ?_
  show OEnd p e below _ (s₁.setTop (mkF m 4 #[.val (.ref a1), .val (.ref a2)] [(.ref a2), (.int (0 : Int32)), (.ref a2), (.ref a1)]))
  have Vc38 := A2
  obtain ⟨cl38, Ar38, -, S38, N38, -, -⟩ := Vc38
  refine OEnd.of (X0.arraylength hx (by rw [e0]; exact Ar38.1) (State.isArrayOf_alike hZ.alike Ar38.2.1) (g := (mkF m 4 #[.val (.ref a1), .val (.ref a2)] [(.ref a2), (.int (0 : Int32)), (.ref a2), (.ref a1)])) rfl rfl (hb hby d1_4)) ?_
  rw [len_of S38 N38]
  show OEnd p e below _ (s₁.setTop (mkF m 5 #[.val (.ref a1), .val (.ref a2)] [(.int (0 : Int32)), (.int (0 : Int32)), (.ref a2), (.ref a1)]))
  refine OEnd.of (fun t k => XS.aconstNull X0.here hx rfl (hb hby d1_5) k) ?_
  show OEnd p e below _ (s₁.setTop (mkF m 6 #[.val (.ref a1), .val (.ref a2)] [.null, (.int (0 : Int32)), (.int (0 : Int32)), (.ref a2), (.ref a1)]))
  obtain ⟨_, vq39, ⟨T39, L39, k39, n39⟩, -, X39, S39, G39, ⟨Lc39, hQ39, l39, y39, z39, C39⟩, st39⟩ := X0.specialBackS hx (y := (⟨"java/lang/String", "<init>", "([CIILjava/lang/Void;)V"⟩ : MethodName)) rfl hown (mvT hZ (hw _ (List.mem_of_getElem? (i := 8) rfl))) (mvT hZ (hw _ (List.mem_of_getElem? (i := 9) rfl))) (mvT hZ (hw _ (List.mem_of_getElem? (i := 11) rfl))) (by decide) (backOfSH (W := 0) (rmS4e l Z a0 hw zc k_WORD k_QUOTED_NAME k_STRING k_NUMBER k_SYMBOL k_END S_CS hzc S_WORD S_QUOTED_NAME S_STRING S_NUMBER S_SYMBOL S_END ne_STRING_WORD ne_STRING_QUOTED_NAME ne_NUMBER_WORD ne_NUMBER_QUOTED_NAME ne_SYMBOL_WORD ne_SYMBOL_QUOTED_NAME ne_END_WORD ne_END_QUOTED_NAME hEL [] a1 a2 h0 O0 E1 Fv Fc g1) hZ (hw _ (List.mem_of_getElem? (i := 11) rfl)) (hw _ (List.mem_of_getElem? (i := 4) rfl)) (by decide) (by decide) hEL HR0.1) (g := (mkF m 6 #[.val (.ref a1), .val (.ref a2)] [.null, (.int (0 : Int32)), (.int (0 : Int32)), (.ref a2), (.ref a1)])) rfl (by rw [hml]; rfl) (Steps.refl _) (a := a1) (argsL := [(.ref a2), (.int (0 : Int32)), (.int (0 : Int32)), .null]) (rest := []) (lenOf pd_285bCIILjava2flang2fVoid3b29V rfl) rfl (by show 2 * 0 + _ ≤ _; exact Nat.le_of_eq rfl) (hb hby d1_6) (fun _ _ => ⟨rfl, e0, (by decide : 0 + 4 ≤ _), (by decide : 0 + 8 ≤ _)⟩)
  dsimp only [Pt.U, Pt.locs, Pt.cells, Pt.slots] at X39 l39 y39 z39 st39 hQ39 S39 G39 C39
  subst l39 y39 z39
  obtain ⟨h39, e39⟩ : ∃ z, T39.heap = z := ⟨_, rfl⟩
  rw [e39] at hQ39 C39
  obtain ⟨rfl, Nq39, Kq39, S_40⟩ := hQ39
  have N41 := Fr.app N0 Nq39
  obtain ⟨X39, S39, hZ39, hown39⟩ := rebS hS0 (by rw [e0]; exact hk0) X39 S39 G39 hZ hown
  have hk39 : T39.heap.size ≤ h39.size := by rw [e39]; exact Nat.le_refl _
  have CR42 : CHr Z EL s.vm h0 T39.vm h39 := C39
  have HR43 : CHr Z EL s.vm h0 T39.vm h39 := HR0.trans CR42
  refine OEnd.of (fun t k => st39.trans k) ?_
  show OEnd p e below _ (T39.setTop (mkF m 9 #[.val (.ref a1), .val (.ref a2)] []))
  have K44 : Keep h0 h39 [a1] := ((Keep.refl h0 [a1]).trans Kq39 (allS (Or.inl (List.mem_of_getElem? (i := 0) rfl)) all0))
  exact OEnd.retVW X39 hx hlk e39 hh S39 hk39 hEL hZ39 HR43 hret (hb hby d1_9) ⟨rfl, N41, K44, S_40⟩ (by decide) (by decide)
theorem d9_0 : decode jdk_30_method_1_code 0 = .ok (.aload_n 0, 1) := by decide +kernel
theorem d9_1 : decode jdk_30_method_1_code 1 = .ok (.invokespecial 1, 3) := by decide +kernel
theorem d9_4 : decode jdk_30_method_1_code 4 = .ok (.return_, 1) := by decide +kernel
theorem pn_java_lang_Record : plainName "java/lang/Record" = true := by first | (simp [plainName, overriddenIn]; done) | decide +kernel
abbrev RMrmRec : Room := { frames := 1, cells := 0, slots := 0, locals := 12 }
theorem ef_rmRec (m : MethodId) (a1 : Addr) : entryFrame m #[(.ref a1)] 1 = mkF m 0 #[.val (.ref a1)] [] := by first | (simp [entryFrame, mkF, argsToLocals, Value.category]; done) | rfl
def QrmRec (Z : State) (zc : Int32) (k_WORD : Addr) (k_QUOTED_NAME : Addr) (k_STRING : Addr) (k_NUMBER : Addr) (k_SYMBOL : Addr) (k_END : Addr) (a1 : Addr) (h0 : Heap) (v : Option Value) (h : Heap) (L : List Loc) : Prop := v = none ∧ Fr Z.heap.size L ∧ h = h0
set_option maxRecDepth 65536 in
set_option maxHeartbeats 40000000 in
theorem rmRec (l : Launch) (Z : State) (a0 : Array Value) (hw : ∀ d ∈ tables_1, d.before a0 Z = true) (zc : Int32) (k_WORD : Addr) (k_QUOTED_NAME : Addr) (k_STRING : Addr) (k_NUMBER : Addr) (k_SYMBOL : Addr) (k_END : Addr) (S_CS : Sta Z Z.heap "java/lang/String" "COMPACT_STRINGS" "Z" (.int zc)) (hzc : ¬ zc = 0) (S_WORD : Sta Z Z.heap "com/example/orderly_schema/orderlyschema/input/SqlTokenizer$Kind" "WORD" "Lcom/example/orderly_schema/orderlyschema/input/SqlTokenizer$Kind;" (.ref k_WORD)) (S_QUOTED_NAME : Sta Z Z.heap "com/example/orderly_schema/orderlyschema/input/SqlTokenizer$Kind" "QUOTED_NAME" "Lcom/example/orderly_schema/orderlyschema/input/SqlTokenizer$Kind;" (.ref k_QUOTED_NAME)) (S_STRING : Sta Z Z.heap "com/example/orderly_schema/orderlyschema/input/SqlTokenizer$Kind" "STRING" "Lcom/example/orderly_schema/orderlyschema/input/SqlTokenizer$Kind;" (.ref k_STRING)) (S_NUMBER : Sta Z Z.heap "com/example/orderly_schema/orderlyschema/input/SqlTokenizer$Kind" "NUMBER" "Lcom/example/orderly_schema/orderlyschema/input/SqlTokenizer$Kind;" (.ref k_NUMBER)) (S_SYMBOL : Sta Z Z.heap "com/example/orderly_schema/orderlyschema/input/SqlTokenizer$Kind" "SYMBOL" "Lcom/example/orderly_schema/orderlyschema/input/SqlTokenizer$Kind;" (.ref k_SYMBOL)) (S_END : Sta Z Z.heap "com/example/orderly_schema/orderlyschema/input/SqlTokenizer$Kind" "END" "Lcom/example/orderly_schema/orderlyschema/input/SqlTokenizer$Kind;" (.ref k_END)) (ne_STRING_WORD : k_STRING ≠ k_WORD) (ne_STRING_QUOTED_NAME : k_STRING ≠ k_QUOTED_NAME) (ne_NUMBER_WORD : k_NUMBER ≠ k_WORD) (ne_NUMBER_QUOTED_NAME : k_NUMBER ≠ k_QUOTED_NAME) (ne_SYMBOL_WORD : k_SYMBOL ≠ k_WORD) (ne_SYMBOL_QUOTED_NAME : k_SYMBOL ≠ k_QUOTED_NAME) (ne_END_WORD : k_END ≠ k_WORD) (ne_END_QUOTED_NAME : k_END ≠ k_QUOTED_NAME) (ws : List Jvm.Cond) (a1 : Addr) (h0 : Heap) (O0 : Ext Z.heap h0) :
    MetFree l (⟨"java/lang/Record", "<init>", "()V"⟩ : MethodName) (head1 (Jvm.Cond.code (⟨"java/lang/Record", "<init>", "()V"⟩ : MethodName) jdk_30_method_1_code 1 none :: ws) RMrmRec) (fun a U => a = #[(.ref a1)] ∧ Z.Warmed39 U.vm ∧ U.heap = h0) (fun _ _ _ _ _ => True) (fun _ U o U' => ∃ v L, o = .returned v ∧ QrmRec Z zc k_WORD k_QUOTED_NAME k_STRING k_NUMBER k_SYMBOL k_END a1 h0 v U'.heap L ∧ FrameEnd U o U' L RMrmRec.cells RMrmRec.slots) := by
  refine MetFree.of_bodySF (plainFor_of_name pn_java_lang_Record) hisR ?_
  intro p e s m args below meth c s₁ Bd hml0 hP hK
  obtain ⟨rfl, hZ, hh⟩ := hP
  have hx := Bd.exec
  have hby := Bd.bytes
  have hlk : meth.locks = false := BodyLoose.notSynchronized Bd
  have hret := Bd.returns
  have hml : c.maxLocals = 1 := hml0
  have hown : s.vm.findClass "java/lang/Record" = some m.cls := findClass_of_methodNamed Bd.named
  have hnm := (name_of_methodNamed Bd.named Bd.method).1
  have X0 : Stand p l e RMrmRec s m #[(.ref a1)] below meth c s₁ [] 0 0 := Stand.of_body Bd
  have e0 : s₁.heap = h0 := by rw [← hh, Bd.state]; rfl
  have N0 := Fr.nil Z.heap.size
  show OEnd p e below (GN s (QrmRec Z zc k_WORD k_QUOTED_NAME k_STRING k_NUMBER k_SYMBOL k_END a1 h0) RMrmRec.cells RMrmRec.slots) _
  refine OEnd.of (fun t k => castTop (ef_rmRec m a1) k) ?_
  refine OEnd.of (fun t k => XS.aloadN X0.here hx rfl (hb hby d9_0) rfl rfl k) ?_
  show OEnd p e below _ (s₁.setTop (mkF m 1 #[.val (.ref a1)] [(.ref a1)]))
  obtain ⟨T45, X45, e45, st45⟩ := initO X0 hx hZ hown (hw _ (List.mem_of_getElem? (i := 49) rfl)) (hw _ (List.mem_of_getElem? (i := 13) rfl)) (hw _ (List.mem_of_getElem? (i := 14) rfl)) e0 (g := (mkF m 1 #[.val (.ref a1)] [(.ref a1)])) rfl (by rw [hml]; rfl) rfl (hb hby d9_1) (by decide) (W := 0) (by show 2 * 0 + _ ≤ _; exact Nat.le_of_eq rfl) (by decide)
  refine OEnd.of st45 ?_
  show OEnd p e below _ (T45.setTop (mkF m 4 #[.val (.ref a1)] []))
  exact OEnd.retV X45 hx hlk e45 hret (hb hby d9_4) ⟨rfl, N0, rfl⟩ (by decide) (by decide)
theorem d7_0 : decode method_2_code 0 = .ok (.iload_n 0, 1) := by decide +kernel
theorem d7_1 : decode method_2_code 1 = .ok (.ifCond .ne 7, 3) := by decide +kernel
theorem d7_4 : decode method_2_code 4 = .ok (.getstatic 7, 3) := by decide +kernel
theorem d7_7 : decode method_2_code 7 = .ok (.areturn, 1) := by decide +kernel
theorem d7_8 : decode method_2_code 8 = .ok (.iload_n 0, 1) := by decide +kernel
theorem d7_9 : decode method_2_code 9 = .ok (.iconst 1, 1) := by decide +kernel
theorem d7_10 : decode method_2_code 10 = .ok (.if_icmp .ne 7, 3) := by decide +kernel
theorem d7_13 : decode method_2_code 13 = .ok (.getstatic 13, 3) := by decide +kernel
theorem d7_16 : decode method_2_code 16 = .ok (.areturn, 1) := by decide +kernel
theorem d7_17 : decode method_2_code 17 = .ok (.iload_n 0, 1) := by decide +kernel
theorem d7_18 : decode method_2_code 18 = .ok (.iconst 2, 1) := by decide +kernel
theorem d7_19 : decode method_2_code 19 = .ok (.if_icmp .ne 7, 3) := by decide +kernel
theorem d7_22 : decode method_2_code 22 = .ok (.getstatic 16, 3) := by decide +kernel
theorem d7_25 : decode method_2_code 25 = .ok (.areturn, 1) := by decide +kernel
theorem d7_26 : decode method_2_code 26 = .ok (.iload_n 0, 1) := by decide +kernel
theorem d7_27 : decode method_2_code 27 = .ok (.iconst 3, 1) := by decide +kernel
theorem d7_28 : decode method_2_code 28 = .ok (.if_icmp .ne 7, 3) := by decide +kernel
theorem d7_31 : decode method_2_code 31 = .ok (.getstatic 19, 3) := by decide +kernel
theorem d7_34 : decode method_2_code 34 = .ok (.areturn, 1) := by decide +kernel
theorem d7_35 : decode method_2_code 35 = .ok (.iload_n 0, 1) := by decide +kernel
theorem d7_36 : decode method_2_code 36 = .ok (.iconst 4, 1) := by decide +kernel
theorem d7_37 : decode method_2_code 37 = .ok (.if_icmp .ne 7, 3) := by decide +kernel
theorem d7_40 : decode method_2_code 40 = .ok (.getstatic 22, 3) := by decide +kernel
theorem d7_43 : decode method_2_code 43 = .ok (.areturn, 1) := by decide +kernel
theorem d7_44 : decode method_2_code 44 = .ok (.getstatic 25, 3) := by decide +kernel
theorem d7_47 : decode method_2_code 47 = .ok (.areturn, 1) := by decide +kernel
theorem pn_com_example_orderly_schema_orderlyschema_input_TokenIsNamePinLaw : plainName "com/example/orderly_schema/orderlyschema/input/TokenIsNamePinLaw" = true := by first | (simp [plainName, overriddenIn]; done) | decide +kernel
abbrev RMrmKind : Room := { frames := 0, cells := 0, slots := 0, locals := 0 }
theorem ef_rmKind (m : MethodId) (p1 : Int32) : entryFrame m #[(.int p1)] 1 = mkF m 0 #[.val (.int p1)] [] := by first | (simp [entryFrame, mkF, argsToLocals, Value.category]; done) | rfl
def QrmKind (Z : State) (zc : Int32) (k_WORD : Addr) (k_QUOTED_NAME : Addr) (k_STRING : Addr) (k_NUMBER : Addr) (k_SYMBOL : Addr) (k_END : Addr) (p1 : Int32) (h0 : Heap) (v : Option Value) (h : Heap) (L : List Loc) : Prop := ∃ (kk : Addr), v = some (.ref kk) ∧ Fr Z.heap.size L ∧ h = h0 ∧ ((p1 = 0 ∧ kk = k_WORD) ∨ (p1 = 1 ∧ kk = k_QUOTED_NAME) ∨ (¬ p1 = 0 ∧ ¬ p1 = 1 ∧ kk ≠ k_WORD ∧ kk ≠ k_QUOTED_NAME))
set_option maxRecDepth 65536 in
set_option maxHeartbeats 40000000 in
theorem rmKind (l : Launch) (Z : State) (a0 : Array Value) (hw : ∀ d ∈ tables_1, d.before a0 Z = true) (zc : Int32) (k_WORD : Addr) (k_QUOTED_NAME : Addr) (k_STRING : Addr) (k_NUMBER : Addr) (k_SYMBOL : Addr) (k_END : Addr) (S_CS : Sta Z Z.heap "java/lang/String" "COMPACT_STRINGS" "Z" (.int zc)) (hzc : ¬ zc = 0) (S_WORD : Sta Z Z.heap "com/example/orderly_schema/orderlyschema/input/SqlTokenizer$Kind" "WORD" "Lcom/example/orderly_schema/orderlyschema/input/SqlTokenizer$Kind;" (.ref k_WORD)) (S_QUOTED_NAME : Sta Z Z.heap "com/example/orderly_schema/orderlyschema/input/SqlTokenizer$Kind" "QUOTED_NAME" "Lcom/example/orderly_schema/orderlyschema/input/SqlTokenizer$Kind;" (.ref k_QUOTED_NAME)) (S_STRING : Sta Z Z.heap "com/example/orderly_schema/orderlyschema/input/SqlTokenizer$Kind" "STRING" "Lcom/example/orderly_schema/orderlyschema/input/SqlTokenizer$Kind;" (.ref k_STRING)) (S_NUMBER : Sta Z Z.heap "com/example/orderly_schema/orderlyschema/input/SqlTokenizer$Kind" "NUMBER" "Lcom/example/orderly_schema/orderlyschema/input/SqlTokenizer$Kind;" (.ref k_NUMBER)) (S_SYMBOL : Sta Z Z.heap "com/example/orderly_schema/orderlyschema/input/SqlTokenizer$Kind" "SYMBOL" "Lcom/example/orderly_schema/orderlyschema/input/SqlTokenizer$Kind;" (.ref k_SYMBOL)) (S_END : Sta Z Z.heap "com/example/orderly_schema/orderlyschema/input/SqlTokenizer$Kind" "END" "Lcom/example/orderly_schema/orderlyschema/input/SqlTokenizer$Kind;" (.ref k_END)) (ne_STRING_WORD : k_STRING ≠ k_WORD) (ne_STRING_QUOTED_NAME : k_STRING ≠ k_QUOTED_NAME) (ne_NUMBER_WORD : k_NUMBER ≠ k_WORD) (ne_NUMBER_QUOTED_NAME : k_NUMBER ≠ k_QUOTED_NAME) (ne_SYMBOL_WORD : k_SYMBOL ≠ k_WORD) (ne_SYMBOL_QUOTED_NAME : k_SYMBOL ≠ k_QUOTED_NAME) (ne_END_WORD : k_END ≠ k_WORD) (ne_END_QUOTED_NAME : k_END ≠ k_QUOTED_NAME) (ws : List Jvm.Cond) (p1 : Int32) (h0 : Heap) (O0 : Ext Z.heap h0) :
    MetFree l (⟨"com/example/orderly_schema/orderlyschema/input/TokenIsNamePinLaw", "kindOf", "(I)Lcom/example/orderly_schema/orderlyschema/input/SqlTokenizer$Kind;"⟩ : MethodName) (head1 (Jvm.Cond.code (⟨"com/example/orderly_schema/orderlyschema/input/TokenIsNamePinLaw", "kindOf", "(I)Lcom/example/orderly_schema/orderlyschema/input/SqlTokenizer$Kind;"⟩ : MethodName) method_2_code 1 (some (.object "com/example/orderly_schema/orderlyschema/input/SqlTokenizer$Kind")) :: ws) RMrmKind) (fun a U => a = #[(.int p1)] ∧ Z.Warmed39 U.vm ∧ U.heap = h0) (fun _ _ _ _ _ => True) (fun _ U o U' => ∃ v L, o = .returned v ∧ QrmKind Z zc k_WORD k_QUOTED_NAME k_STRING k_NUMBER k_SYMBOL k_END p1 h0 v U'.heap L ∧ FrameEnd U o U' L RMrmKind.cells RMrmKind.slots) := by
  refine MetFree.of_bodySF (plainFor_of_name pn_com_example_orderly_schema_orderlyschema_input_TokenIsNamePinLaw) hisR ?_
  intro p e s m args below meth c s₁ Bd hml0 hP hK
  obtain ⟨rfl, hZ, hh⟩ := hP
  have hx := Bd.exec
  have hby := Bd.bytes
  have hlk : meth.locks = false := BodyLoose.notSynchronized Bd
  have hret := Bd.returns
  have hml : c.maxLocals = 1 := hml0
  have hown : s.vm.findClass "com/example/orderly_schema/orderlyschema/input/TokenIsNamePinLaw" = some m.cls := findClass_of_methodNamed Bd.named
  have hnm := (name_of_methodNamed Bd.named Bd.method).1
  have X0 : Stand p l e RMrmKind s m #[(.int p1)] below meth c s₁ [] 0 0 := Stand.of_body Bd
  have e0 : s₁.heap = h0 := by rw [← hh, Bd.state]; rfl
  have N0 := Fr.nil Z.heap.size
  show OEnd p e below (GN s (QrmKind Z zc k_WORD k_QUOTED_NAME k_STRING k_NUMBER k_SYMBOL k_END p1 h0) RMrmKind.cells RMrmKind.slots) _
  refine OEnd.of (fun t k => castTop (ef_rmKind m p1) k) ?_
  refine OEnd.of (fun t k => XS.iloadN X0.here hx rfl (hb hby d7_0) rfl k) ?_
  show OEnd p e below _ (s₁.setTop (mkF m 1 #[.val (.int p1)] [(.int p1)]))
  by_cases hc46 : p1 = (0 : Int32)
  · refine OEnd.of (fun t k => XS.ifNo X0.here hx rfl (hb hby d7_1) rfl ((if0 _ _).trans (teq hc46).2) k) ?_
    show OEnd p e below _ (s₁.setTop (mkF m 4 #[.val (.int p1)] []))
    obtain ⟨T47, X47, e47, st47⟩ := getS2 X0 hx hZ hown (host := "") (Or.inl (hw _ (List.mem_of_getElem? (i := 38) rfl))) Via.refl e0 (Sta.ext O0 S_WORD) (g := (mkF m 4 #[.val (.int p1)] [])) rfl (hb hby d7_4)
    refine OEnd.of st47 ?_
    show OEnd p e below _ (T47.setTop (mkF m 7 #[.val (.int p1)] [(.ref k_WORD)]))
    exact OEnd.retA X47 hx hlk e47 hret rfl rfl (hb hby d7_7) ⟨k_WORD, rfl, N0, rfl, (Or.inl ⟨hc46, rfl⟩)⟩ (by decide) (by decide)
  · refine OEnd.of (fun t k => XS.ifYes X0.here hx rfl (pc0 := 1) (pc' := 8) rfl (hb hby d7_1) rfl ((if0 _ _).trans (feq hc46).2) (by decide) (by decide) k) ?_
    show OEnd p e below _ (s₁.setTop (mkF m 8 #[.val (.int p1)] []))
    refine OEnd.of (fun t k => XS.iloadN X0.here hx rfl (hb hby d7_8) rfl k) ?_
    show OEnd p e below _ (s₁.setTop (mkF m 9 #[.val (.int p1)] [(.int p1)]))
    refine OEnd.of (fun t k => XS.iconst X0.here hx rfl (hb hby d7_9) k) ?_
    show OEnd p e below _ (s₁.setTop (mkF m 10 #[.val (.int p1)] [(.int (1 : Int32)), (.int p1)]))
    by_cases hc48 : p1 = (1 : Int32)
    · refine OEnd.of (fun t k => XS.icmpNo X0.here hx rfl (hb hby d7_10) rfl (teq hc48).2 k) ?_
      show OEnd p e below _ (s₁.setTop (mkF m 13 #[.val (.int p1)] []))
      obtain ⟨T49, X49, e49, st49⟩ := getS2 X0 hx hZ hown (host := "") (Or.inl (hw _ (List.mem_of_getElem? (i := 73) rfl))) Via.refl e0 (Sta.ext O0 S_QUOTED_NAME) (g := (mkF m 13 #[.val (.int p1)] [])) rfl (hb hby d7_13)
      refine OEnd.of st49 ?_
      show OEnd p e below _ (T49.setTop (mkF m 16 #[.val (.int p1)] [(.ref k_QUOTED_NAME)]))
      exact OEnd.retA X49 hx hlk e49 hret rfl rfl (hb hby d7_16) ⟨k_QUOTED_NAME, rfl, N0, rfl, (Or.inr (Or.inl ⟨hc48, rfl⟩))⟩ (by decide) (by decide)
    · refine OEnd.of (fun t k => XS.icmpYes X0.here hx rfl (pc0 := 10) (pc' := 17) rfl (hb hby d7_10) rfl (feq hc48).2 (by decide) (by decide) k) ?_
      show OEnd p e below _ (s₁.setTop (mkF m 17 #[.val (.int p1)] []))
      refine OEnd.of (fun t k => XS.iloadN X0.here hx rfl (hb hby d7_17) rfl k) ?_
      show OEnd p e below _ (s₁.setTop (mkF m 18 #[.val (.int p1)] [(.int p1)]))
      refine OEnd.of (fun t k => XS.iconst X0.here hx rfl (hb hby d7_18) k) ?_
      show OEnd p e below _ (s₁.setTop (mkF m 19 #[.val (.int p1)] [(.int (2 : Int32)), (.int p1)]))
      by_cases hc50 : p1 = (2 : Int32)
      · refine OEnd.of (fun t k => XS.icmpNo X0.here hx rfl (hb hby d7_19) rfl (teq hc50).2 k) ?_
        show OEnd p e below _ (s₁.setTop (mkF m 22 #[.val (.int p1)] []))
        obtain ⟨T51, X51, e51, st51⟩ := getS2 X0 hx hZ hown (host := "") (Or.inl (hw _ (List.mem_of_getElem? (i := 71) rfl))) Via.refl e0 (Sta.ext O0 S_STRING) (g := (mkF m 22 #[.val (.int p1)] [])) rfl (hb hby d7_22)
        refine OEnd.of st51 ?_
        show OEnd p e below _ (T51.setTop (mkF m 25 #[.val (.int p1)] [(.ref k_STRING)]))
        exact OEnd.retA X51 hx hlk e51 hret rfl rfl (hb hby d7_25) ⟨k_STRING, rfl, N0, rfl, (Or.inr (Or.inr ⟨hc46, hc48, ne_STRING_WORD, ne_STRING_QUOTED_NAME⟩))⟩ (by decide) (by decide)
      · refine OEnd.of (fun t k => XS.icmpYes X0.here hx rfl (pc0 := 19) (pc' := 26) rfl (hb hby d7_19) rfl (feq hc50).2 (by decide) (by decide) k) ?_
        show OEnd p e below _ (s₁.setTop (mkF m 26 #[.val (.int p1)] []))
        refine OEnd.of (fun t k => XS.iloadN X0.here hx rfl (hb hby d7_26) rfl k) ?_
        show OEnd p e below _ (s₁.setTop (mkF m 27 #[.val (.int p1)] [(.int p1)]))
        refine OEnd.of (fun t k => XS.iconst X0.here hx rfl (hb hby d7_27) k) ?_
        show OEnd p e below _ (s₁.setTop (mkF m 28 #[.val (.int p1)] [(.int (3 : Int32)), (.int p1)]))
        by_cases hc52 : p1 = (3 : Int32)
        · refine OEnd.of (fun t k => XS.icmpNo X0.here hx rfl (hb hby d7_28) rfl (teq hc52).2 k) ?_
          show OEnd p e below _ (s₁.setTop (mkF m 31 #[.val (.int p1)] []))
          obtain ⟨T53, X53, e53, st53⟩ := getS2 X0 hx hZ hown (host := "") (Or.inl (hw _ (List.mem_of_getElem? (i := 74) rfl))) Via.refl e0 (Sta.ext O0 S_NUMBER) (g := (mkF m 31 #[.val (.int p1)] [])) rfl (hb hby d7_31)
          refine OEnd.of st53 ?_
          show OEnd p e below _ (T53.setTop (mkF m 34 #[.val (.int p1)] [(.ref k_NUMBER)]))
          exact OEnd.retA X53 hx hlk e53 hret rfl rfl (hb hby d7_34) ⟨k_NUMBER, rfl, N0, rfl, (Or.inr (Or.inr ⟨hc46, hc48, ne_NUMBER_WORD, ne_NUMBER_QUOTED_NAME⟩))⟩ (by decide) (by decide)
        · refine OEnd.of (fun t k => XS.icmpYes X0.here hx rfl (pc0 := 28) (pc' := 35) rfl (hb hby d7_28) rfl (feq hc52).2 (by decide) (by decide) k) ?_
          show OEnd p e below _ (s₁.setTop (mkF m 35 #[.val (.int p1)] []))
          refine OEnd.of (fun t k => XS.iloadN X0.here hx rfl (hb hby d7_35) rfl k) ?_
          show OEnd p e below _ (s₁.setTop (mkF m 36 #[.val (.int p1)] [(.int p1)]))
          refine OEnd.of (fun t k => XS.iconst X0.here hx rfl (hb hby d7_36) k) ?_
          show OEnd p e below _ (s₁.setTop (mkF m 37 #[.val (.int p1)] [(.int (4 : Int32)), (.int p1)]))
          by_cases hc54 : p1 = (4 : Int32)
          · refine OEnd.of (fun t k => XS.icmpNo X0.here hx rfl (hb hby d7_37) rfl (teq hc54).2 k) ?_
            show OEnd p e below _ (s₁.setTop (mkF m 40 #[.val (.int p1)] []))
            obtain ⟨T55, X55, e55, st55⟩ := getS2 X0 hx hZ hown (host := "") (Or.inl (hw _ (List.mem_of_getElem? (i := 62) rfl))) Via.refl e0 (Sta.ext O0 S_SYMBOL) (g := (mkF m 40 #[.val (.int p1)] [])) rfl (hb hby d7_40)
            refine OEnd.of st55 ?_
            show OEnd p e below _ (T55.setTop (mkF m 43 #[.val (.int p1)] [(.ref k_SYMBOL)]))
            exact OEnd.retA X55 hx hlk e55 hret rfl rfl (hb hby d7_43) ⟨k_SYMBOL, rfl, N0, rfl, (Or.inr (Or.inr ⟨hc46, hc48, ne_SYMBOL_WORD, ne_SYMBOL_QUOTED_NAME⟩))⟩ (by decide) (by decide)
          · refine OEnd.of (fun t k => XS.icmpYes X0.here hx rfl (pc0 := 37) (pc' := 44) rfl (hb hby d7_37) rfl (feq hc54).2 (by decide) (by decide) k) ?_
            show OEnd p e below _ (s₁.setTop (mkF m 44 #[.val (.int p1)] []))
            obtain ⟨T56, X56, e56, st56⟩ := getS2 X0 hx hZ hown (host := "") (Or.inl (hw _ (List.mem_of_getElem? (i := 69) rfl))) Via.refl e0 (Sta.ext O0 S_END) (g := (mkF m 44 #[.val (.int p1)] [])) rfl (hb hby d7_44)
            refine OEnd.of st56 ?_
            show OEnd p e below _ (T56.setTop (mkF m 47 #[.val (.int p1)] [(.ref k_END)]))
            exact OEnd.retA X56 hx hlk e56 hret rfl rfl (hb hby d7_47) ⟨k_END, rfl, N0, rfl, (Or.inr (Or.inr ⟨hc46, hc48, ne_END_WORD, ne_END_QUOTED_NAME⟩))⟩ (by decide) (by decide)
theorem pd_2829V : parseMethodDescriptor "()V" = some ⟨[], none⟩ := by decide +kernel
theorem d8_0 : decode prog_51_method_1_code 0 = .ok (.aload_n 0, 1) := by decide +kernel
theorem d8_1 : decode prog_51_method_1_code 1 = .ok (.invokespecial 1, 3) := by decide +kernel
theorem d8_4 : decode prog_51_method_1_code 4 = .ok (.aload_n 0, 1) := by decide +kernel
theorem d8_5 : decode prog_51_method_1_code 5 = .ok (.aload_n 1, 1) := by decide +kernel
theorem d8_6 : decode prog_51_method_1_code 6 = .ok (.putfield 7, 3) := by decide +kernel
theorem d8_9 : decode prog_51_method_1_code 9 = .ok (.aload_n 0, 1) := by decide +kernel
theorem d8_10 : decode prog_51_method_1_code 10 = .ok (.aload_n 2, 1) := by decide +kernel
theorem d8_11 : decode prog_51_method_1_code 11 = .ok (.putfield 13, 3) := by decide +kernel
theorem d8_14 : decode prog_51_method_1_code 14 = .ok (.aload_n 0, 1) := by decide +kernel
theorem d8_15 : decode prog_51_method_1_code 15 = .ok (.lload_n 3, 1) := by decide +kernel
theorem d8_16 : decode prog_51_method_1_code 16 = .ok (.putfield 17, 3) := by decide +kernel
theorem d8_19 : decode prog_51_method_1_code 19 = .ok (.return_, 1) := by decide +kernel
theorem pn_com_example_orderly_schema_orderlyschema_input_SqlTokenizer_Token : plainName "com/example/orderly_schema/orderlyschema/input/SqlTokenizer$Token" = true := by first | (simp [plainName, overriddenIn]; done) | decide +kernel
abbrev RMrmTok : Room := { frames := 2, cells := 0, slots := 0, locals := 24 }
theorem ef_rmTok (m : MethodId) (a1 : Addr) (kk : Addr) (sa : Addr) (q4 : Int64) : entryFrame m #[(.ref a1), (.ref kk), (.ref sa), (.long q4)] 5 = mkF m 0 #[.val (.ref a1), .val (.ref kk), .val (.ref sa), .val (.long q4), .second] [] := by first | (simp [entryFrame, mkF, argsToLocals, Value.category]; done) | rfl
def QrmTok (Z : State) (zc : Int32) (k_WORD : Addr) (k_QUOTED_NAME : Addr) (k_STRING : Addr) (k_NUMBER : Addr) (k_SYMBOL : Addr) (k_END : Addr) (a1 : Addr) (kk : Addr) (sa : Addr) (q4 : Int64) (h0 : Heap) (v : Option Value) (h : Heap) (L : List Loc) : Prop := v = none ∧ Fr Z.heap.size L ∧ Keep h0 h [a1] ∧ Exa Z h a1 "com/example/orderly_schema/orderlyschema/input/SqlTokenizer$Token" ∧ Fld Z h a1 "com/example/orderly_schema/orderlyschema/input/SqlTokenizer$Token" "kind" "Lcom/example/orderly_schema/orderlyschema/input/SqlTokenizer$Kind;" (.ref kk)
set_option maxRecDepth 65536 in
set_option maxHeartbeats 40000000 in
theorem rmTok (l : Launch) (Z : State) (a0 : Array Value) (hw : ∀ d ∈ tables_1, d.before a0 Z = true) (zc : Int32) (k_WORD : Addr) (k_QUOTED_NAME : Addr) (k_STRING : Addr) (k_NUMBER : Addr) (k_SYMBOL : Addr) (k_END : Addr) (S_CS : Sta Z Z.heap "java/lang/String" "COMPACT_STRINGS" "Z" (.int zc)) (hzc : ¬ zc = 0) (S_WORD : Sta Z Z.heap "com/example/orderly_schema/orderlyschema/input/SqlTokenizer$Kind" "WORD" "Lcom/example/orderly_schema/orderlyschema/input/SqlTokenizer$Kind;" (.ref k_WORD)) (S_QUOTED_NAME : Sta Z Z.heap "com/example/orderly_schema/orderlyschema/input/SqlTokenizer$Kind" "QUOTED_NAME" "Lcom/example/orderly_schema/orderlyschema/input/SqlTokenizer$Kind;" (.ref k_QUOTED_NAME)) (S_STRING : Sta Z Z.heap "com/example/orderly_schema/orderlyschema/input/SqlTokenizer$Kind" "STRING" "Lcom/example/orderly_schema/orderlyschema/input/SqlTokenizer$Kind;" (.ref k_STRING)) (S_NUMBER : Sta Z Z.heap "com/example/orderly_schema/orderlyschema/input/SqlTokenizer$Kind" "NUMBER" "Lcom/example/orderly_schema/orderlyschema/input/SqlTokenizer$Kind;" (.ref k_NUMBER)) (S_SYMBOL : Sta Z Z.heap "com/example/orderly_schema/orderlyschema/input/SqlTokenizer$Kind" "SYMBOL" "Lcom/example/orderly_schema/orderlyschema/input/SqlTokenizer$Kind;" (.ref k_SYMBOL)) (S_END : Sta Z Z.heap "com/example/orderly_schema/orderlyschema/input/SqlTokenizer$Kind" "END" "Lcom/example/orderly_schema/orderlyschema/input/SqlTokenizer$Kind;" (.ref k_END)) (ne_STRING_WORD : k_STRING ≠ k_WORD) (ne_STRING_QUOTED_NAME : k_STRING ≠ k_QUOTED_NAME) (ne_NUMBER_WORD : k_NUMBER ≠ k_WORD) (ne_NUMBER_QUOTED_NAME : k_NUMBER ≠ k_QUOTED_NAME) (ne_SYMBOL_WORD : k_SYMBOL ≠ k_WORD) (ne_SYMBOL_QUOTED_NAME : k_SYMBOL ≠ k_QUOTED_NAME) (ne_END_WORD : k_END ≠ k_WORD) (ne_END_QUOTED_NAME : k_END ≠ k_QUOTED_NAME) (ws : List Jvm.Cond) (a1 : Addr) (kk : Addr) (sa : Addr) (q4 : Int64) (h0 : Heap) (O0 : Ext Z.heap h0) (E1 : Exa Z h0 a1 "com/example/orderly_schema/orderlyschema/input/SqlTokenizer$Token") (F1 : Fld Z h0 a1 "com/example/orderly_schema/orderlyschema/input/SqlTokenizer$Token" "kind" "Lcom/example/orderly_schema/orderlyschema/input/SqlTokenizer$Kind;" .null) (F2 : Fld Z h0 a1 "com/example/orderly_schema/orderlyschema/input/SqlTokenizer$Token" "text" "Ljava/lang/String;" .null) (F3 : Fld Z h0 a1 "com/example/orderly_schema/orderlyschema/input/SqlTokenizer$Token" "line" "J" (.long (0 : Int64))) (g1 : Z.heap.size ≤ a1) :
    MetFree l (⟨"com/example/orderly_schema/orderlyschema/input/SqlTokenizer$Token", "<init>", "(Lcom/example/orderly_schema/orderlyschema/input/SqlTokenizer$Kind;Ljava/lang/String;J)V"⟩ : MethodName) (head1 (Jvm.Cond.code (⟨"com/example/orderly_schema/orderlyschema/input/SqlTokenizer$Token", "<init>", "(Lcom/example/orderly_schema/orderlyschema/input/SqlTokenizer$Kind;Ljava/lang/String;J)V"⟩ : MethodName) prog_51_method_1_code 5 none :: ws) RMrmTok) (fun a U => a = #[(.ref a1), (.ref kk), (.ref sa), (.long q4)] ∧ Z.Warmed39 U.vm ∧ U.heap = h0) (fun _ _ _ _ _ => True) (fun _ U o U' => ∃ v L, o = .returned v ∧ QrmTok Z zc k_WORD k_QUOTED_NAME k_STRING k_NUMBER k_SYMBOL k_END a1 kk sa q4 h0 v U'.heap L ∧ FrameEnd U o U' L RMrmTok.cells RMrmTok.slots) := by
  refine MetFree.of_bodySF (plainFor_of_name pn_com_example_orderly_schema_orderlyschema_input_SqlTokenizer_Token) hisR ?_
  intro p e s m args below meth c s₁ Bd hml0 hP hK
  obtain ⟨rfl, hZ, hh⟩ := hP
  have hx := Bd.exec
  have hby := Bd.bytes
  have hlk : meth.locks = false := BodyLoose.notSynchronized Bd
  have hret := Bd.returns
  have hml : c.maxLocals = 5 := hml0
  have hown : s.vm.findClass "com/example/orderly_schema/orderlyschema/input/SqlTokenizer$Token" = some m.cls := findClass_of_methodNamed Bd.named
  have hnm := (name_of_methodNamed Bd.named Bd.method).1
  have X0 : Stand p l e RMrmTok s m #[(.ref a1), (.ref kk), (.ref sa), (.long q4)] below meth c s₁ [] 0 0 := Stand.of_body Bd
  have e0 : s₁.heap = h0 := by rw [← hh, Bd.state]; rfl
  have N0 := Fr.nil Z.heap.size
  show OEnd p e below (GN s (QrmTok Z zc k_WORD k_QUOTED_NAME k_STRING k_NUMBER k_SYMBOL k_END a1 kk sa q4 h0) RMrmTok.cells RMrmTok.slots) _
  refine OEnd.of (fun t k => castTop (ef_rmTok m a1 kk sa q4) k) ?_
  refine OEnd.of (fun t k => XS.aloadN X0.here hx rfl (hb hby d8_0) rfl rfl k) ?_
  show OEnd p e below _ (s₁.setTop (mkF m 1 #[.val (.ref a1), .val (.ref kk), .val (.ref sa), .val (.long q4), .second] [(.ref a1)]))
  obtain ⟨_, _, ⟨T57, L57, k57, n57⟩, -, X57, ⟨Lc57, hQ57, l57, y57, z57⟩, st57⟩ := X0.specialBack hx (y := (⟨"java/lang/Record", "<init>", "()V"⟩ : MethodName)) rfl hown (mvT hZ (hw _ (List.mem_of_getElem? (i := 44) rfl))) (mvT hZ (hw _ (List.mem_of_getElem? (i := 45) rfl))) (mvT hZ (hw _ (List.mem_of_getElem? (i := 48) rfl))) (by decide) (backOf (W := 0) (rmRec l Z a0 hw zc k_WORD k_QUOTED_NAME k_STRING k_NUMBER k_SYMBOL k_END S_CS hzc S_WORD S_QUOTED_NAME S_STRING S_NUMBER S_SYMBOL S_END ne_STRING_WORD ne_STRING_QUOTED_NAME ne_NUMBER_WORD ne_NUMBER_QUOTED_NAME ne_SYMBOL_WORD ne_SYMBOL_QUOTED_NAME ne_END_WORD ne_END_QUOTED_NAME [] a1 h0 O0 ) hZ (hw _ (List.mem_of_getElem? (i := 48) rfl)) (hw _ (List.mem_of_getElem? (i := 47) rfl)) (by decide) (by decide)) (g := (mkF m 1 #[.val (.ref a1), .val (.ref kk), .val (.ref sa), .val (.long q4), .second] [(.ref a1)])) rfl (by rw [hml]; rfl) (Steps.refl _) (a := a1) (argsL := []) (rest := []) (lenOf pd_2829V rfl) rfl (by show 2 * 0 + _ ≤ _; exact Nat.le_of_eq rfl) (hb hby d8_1) (fun _ _ => ⟨rfl, e0, (by decide : 0 + 0 ≤ _), (by decide : 0 + 0 ≤ _)⟩)
  dsimp only [Pt.U, Pt.locs, Pt.cells, Pt.slots] at X57 l57 y57 z57 st57 hQ57
  subst l57 y57 z57
  obtain ⟨rfl, Nq57, e57⟩ := hQ57
  have N58 := Fr.app N0 Nq57
  refine OEnd.of (fun t k => st57.trans k) ?_
  show OEnd p e below _ (T57.setTop (mkF m 4 #[.val (.ref a1), .val (.ref kk), .val (.ref sa), .val (.long q4), .second] []))
  refine OEnd.of (fun t k => XS.aloadN X57.here hx rfl (hb hby d8_4) rfl rfl k) ?_
  show OEnd p e below _ (T57.setTop (mkF m 5 #[.val (.ref a1), .val (.ref kk), .val (.ref sa), .val (.long q4), .second] [(.ref a1)]))
  refine OEnd.of (fun t k => XS.aloadN X57.here hx rfl (hb hby d8_5) rfl rfl k) ?_
  show OEnd p e below _ (T57.setTop (mkF m 6 #[.val (.ref a1), .val (.ref kk), .val (.ref sa), .val (.long q4), .second] [(.ref kk), (.ref a1)]))
  obtain ⟨T59, h59, X59, e59, W59, st59⟩ := putF X57 hx hZ hown (host := "") (Or.inl (hw _ (List.mem_of_getElem? (i := 50) rfl))) Via.refl e57 F1 E1 (Or.inr ⟨(hw _ (List.mem_of_getElem? (i := 51) rfl)), rfl, hnm⟩) (hw _ (List.mem_of_getElem? (i := 32) rfl)) (ty := (.object "com/example/orderly_schema/orderlyschema/input/SqlTokenizer$Kind")) (by decide) rfl rfl (g := (mkF m 6 #[.val (.ref a1), .val (.ref kk), .val (.ref sa), .val (.long q4), .second] [(.ref kk), (.ref a1)])) rfl rfl (hb hby d8_6)
  refine OEnd.of st59 ?_
  have F60 : Fld Z h59 a1 "com/example/orderly_schema/orderlyschema/input/SqlTokenizer$Token" "kind" "Lcom/example/orderly_schema/orderlyschema/input/SqlTokenizer$Kind;" (.ref kk) := Fld.same W59 F1
  have E61 : Exa Z h59 a1 "com/example/orderly_schema/orderlyschema/input/SqlTokenizer$Token" := E1.wr W59
  have F62 : Fld Z h59 a1 "com/example/orderly_schema/orderlyschema/input/SqlTokenizer$Token" "text" "Ljava/lang/String;" .null := F2.other W59 (Or.inr (slot_ne (Or.inr (hw _ (List.mem_of_getElem? (i := 53) rfl))) (Or.inr (hw _ (List.mem_of_getElem? (i := 51) rfl))) (by decide) (t := (.object "java/lang/String")) (t' := (.object "com/example/orderly_schema/orderlyschema/input/SqlTokenizer$Kind")) (by decide) (by decide)))
  have F63 : Fld Z h59 a1 "com/example/orderly_schema/orderlyschema/input/SqlTokenizer$Token" "line" "J" (.long (0 : Int64)) := F3.other W59 (Or.inr (slot_ne (Or.inr (hw _ (List.mem_of_getElem? (i := 55) rfl))) (Or.inr (hw _ (List.mem_of_getElem? (i := 51) rfl))) (by decide) (t := .long) (t' := (.object "com/example/orderly_schema/orderlyschema/input/SqlTokenizer$Kind")) (by decide) (by decide)))
  have N64 := Fr.snoc X59 N58 g1
  show OEnd p e below _ (T59.setTop (mkF m 9 #[.val (.ref a1), .val (.ref kk), .val (.ref sa), .val (.long q4), .second] []))
  refine OEnd.of (fun t k => XS.aloadN X59.here hx rfl (hb hby d8_9) rfl rfl k) ?_
  show OEnd p e below _ (T59.setTop (mkF m 10 #[.val (.ref a1), .val (.ref kk), .val (.ref sa), .val (.long q4), .second] [(.ref a1)]))
  refine OEnd.of (fun t k => XS.aloadN X59.here hx rfl (hb hby d8_10) rfl rfl k) ?_
  show OEnd p e below _ (T59.setTop (mkF m 11 #[.val (.ref a1), .val (.ref kk), .val (.ref sa), .val (.long q4), .second] [(.ref sa), (.ref a1)]))
  obtain ⟨T65, h65, X65, e65, W65, st65⟩ := putF X59 hx hZ hown (host := "") (Or.inl (hw _ (List.mem_of_getElem? (i := 52) rfl))) Via.refl e59 F62 E61 (Or.inr ⟨(hw _ (List.mem_of_getElem? (i := 53) rfl)), rfl, hnm⟩) (hw _ (List.mem_of_getElem? (i := 32) rfl)) (ty := (.object "java/lang/String")) (by decide) rfl rfl (g := (mkF m 11 #[.val (.ref a1), .val (.ref kk), .val (.ref sa), .val (.long q4), .second] [(.ref sa), (.ref a1)])) rfl rfl (hb hby d8_11)
  refine OEnd.of st65 ?_
  have F66 : Fld Z h65 a1 "com/example/orderly_schema/orderlyschema/input/SqlTokenizer$Token" "text" "Ljava/lang/String;" (.ref sa) := Fld.same W65 F62
  have E67 : Exa Z h65 a1 "com/example/orderly_schema/orderlyschema/input/SqlTokenizer$Token" := E61.wr W65
  have F68 : Fld Z h65 a1 "com/example/orderly_schema/orderlyschema/input/SqlTokenizer$Token" "line" "J" (.long (0 : Int64)) := F63.other W65 (Or.inr (slot_ne (Or.inr (hw _ (List.mem_of_getElem? (i := 55) rfl))) (Or.inr (hw _ (List.mem_of_getElem? (i := 53) rfl))) (by decide) (t := .long) (t' := (.object "java/lang/String")) (by decide) (by decide)))
  have F69 : Fld Z h65 a1 "com/example/orderly_schema/orderlyschema/input/SqlTokenizer$Token" "kind" "Lcom/example/orderly_schema/orderlyschema/input/SqlTokenizer$Kind;" (.ref kk) := F60.other W65 (Or.inr (slot_ne (Or.inr (hw _ (List.mem_of_getElem? (i := 51) rfl))) (Or.inr (hw _ (List.mem_of_getElem? (i := 53) rfl))) (by decide) (t := (.object "com/example/orderly_schema/orderlyschema/input/SqlTokenizer$Kind")) (t' := (.object "java/lang/String")) (by decide) (by decide)))
  have N70 := Fr.snoc X65 N64 g1
  show OEnd p e below _ (T65.setTop (mkF m 14 #[.val (.ref a1), .val (.ref kk), .val (.ref sa), .val (.long q4), .second] []))
  refine OEnd.of (fun t k => XS.aloadN X65.here hx rfl (hb hby d8_14) rfl rfl k) ?_
  show OEnd p e below _ (T65.setTop (mkF m 15 #[.val (.ref a1), .val (.ref kk), .val (.ref sa), .val (.long q4), .second] [(.ref a1)]))
  refine OEnd.of (fun t k => XS.lloadN X65.here hx rfl (hb hby d8_15) rfl k) ?_
  show OEnd p e below _ (T65.setTop (mkF m 16 #[.val (.ref a1), .val (.ref kk), .val (.ref sa), .val (.long q4), .second] [(.long q4), (.ref a1)]))
  obtain ⟨T71, h71, X71, e71, W71, st71⟩ := putF X65 hx hZ hown (host := "") (Or.inl (hw _ (List.mem_of_getElem? (i := 54) rfl))) Via.refl e65 F68 E67 (Or.inr ⟨(hw _ (List.mem_of_getElem? (i := 55) rfl)), rfl, hnm⟩) (hw _ (List.mem_of_getElem? (i := 32) rfl)) (ty := .long) (by decide) rfl rfl (g := (mkF m 16 #[.val (.ref a1), .val (.ref kk), .val (.ref sa), .val (.long q4), .second] [(.long q4), (.ref a1)])) rfl rfl (hb hby d8_16)
  refine OEnd.of st71 ?_
  have F72 : Fld Z h71 a1 "com/example/orderly_schema/orderlyschema/input/SqlTokenizer$Token" "line" "J" (.long q4) := Fld.same W71 F68
  have E73 : Exa Z h71 a1 "com/example/orderly_schema/orderlyschema/input/SqlTokenizer$Token" := E67.wr W71
  have F74 : Fld Z h71 a1 "com/example/orderly_schema/orderlyschema/input/SqlTokenizer$Token" "kind" "Lcom/example/orderly_schema/orderlyschema/input/SqlTokenizer$Kind;" (.ref kk) := F69.other W71 (Or.inr (slot_ne (Or.inr (hw _ (List.mem_of_getElem? (i := 51) rfl))) (Or.inr (hw _ (List.mem_of_getElem? (i := 55) rfl))) (by decide) (t := (.object "com/example/orderly_schema/orderlyschema/input/SqlTokenizer$Kind")) (t' := .long) (by decide) (by decide)))
  have F75 : Fld Z h71 a1 "com/example/orderly_schema/orderlyschema/input/SqlTokenizer$Token" "text" "Ljava/lang/String;" (.ref sa) := F66.other W71 (Or.inr (slot_ne (Or.inr (hw _ (List.mem_of_getElem? (i := 53) rfl))) (Or.inr (hw _ (List.mem_of_getElem? (i := 55) rfl))) (by decide) (t := (.object "java/lang/String")) (t' := .long) (by decide) (by decide)))
  have N76 := Fr.snoc X71 N70 g1
  show OEnd p e below _ (T71.setTop (mkF m 19 #[.val (.ref a1), .val (.ref kk), .val (.ref sa), .val (.long q4), .second] []))
  have K77 : Keep h0 h71 [a1] := ((((Keep.refl h0 [a1]).wr W59 (Or.inl (List.mem_of_getElem? (i := 0) rfl))).wr W65 (Or.inl (List.mem_of_getElem? (i := 0) rfl))).wr W71 (Or.inl (List.mem_of_getElem? (i := 0) rfl)))
  exact OEnd.retV X71 hx hlk e71 hret (hb hby d8_19) ⟨rfl, N76, K77, E73, F74⟩ (by decide) (by decide)
theorem d10_0 : decode prog_51_method_4_code 0 = .ok (.aload_n 0, 1) := by decide +kernel
theorem d10_1 : decode prog_51_method_4_code 1 = .ok (.getfield 7, 3) := by decide +kernel
theorem d10_4 : decode prog_51_method_4_code 4 = .ok (.getstatic 21, 3) := by decide +kernel
theorem d10_7 : decode prog_51_method_4_code 7 = .ok (.if_acmp .eq 13, 3) := by decide +kernel
theorem d10_10 : decode prog_51_method_4_code 10 = .ok (.aload_n 0, 1) := by decide +kernel
theorem d10_11 : decode prog_51_method_4_code 11 = .ok (.getfield 7, 3) := by decide +kernel
theorem d10_14 : decode prog_51_method_4_code 14 = .ok (.getstatic 41, 3) := by decide +kernel
theorem d10_17 : decode prog_51_method_4_code 17 = .ok (.if_acmp .ne 7, 3) := by decide +kernel
theorem d10_20 : decode prog_51_method_4_code 20 = .ok (.iconst 1, 1) := by decide +kernel
theorem d10_21 : decode prog_51_method_4_code 21 = .ok (.goto 4, 3) := by decide +kernel
theorem d10_24 : decode prog_51_method_4_code 24 = .ok (.iconst 0, 1) := by decide +kernel
theorem d10_25 : decode prog_51_method_4_code 25 = .ok (.ireturn, 1) := by decide +kernel
abbrev RMrmIsN : Room := { frames := 0, cells := 0, slots := 0, locals := 0 }
theorem ef_rmIsN (m : MethodId) (a1 : Addr) : entryFrame m #[(.ref a1)] 1 = mkF m 0 #[.val (.ref a1)] [] := by first | (simp [entryFrame, mkF, argsToLocals, Value.category]; done) | rfl
def QrmIsN (Z : State) (zc : Int32) (k_WORD : Addr) (k_QUOTED_NAME : Addr) (k_STRING : Addr) (k_NUMBER : Addr) (k_SYMBOL : Addr) (k_END : Addr) (a1 : Addr) (kk : Addr) (h0 : Heap) (v : Option Value) (h : Heap) (L : List Loc) : Prop := ∃ (bb : Int32), v = some (.int bb) ∧ Fr Z.heap.size L ∧ h = h0 ∧ ((bb = 1 ∧ (kk = k_WORD ∨ kk = k_QUOTED_NAME)) ∨ (bb = 0 ∧ ¬ (kk = k_WORD ∨ kk = k_QUOTED_NAME)))
set_option maxRecDepth 65536 in
set_option maxHeartbeats 40000000 in
theorem rmIsN (l : Launch) (Z : State) (a0 : Array Value) (hw : ∀ d ∈ tables_1, d.before a0 Z = true) (zc : Int32) (k_WORD : Addr) (k_QUOTED_NAME : Addr) (k_STRING : Addr) (k_NUMBER : Addr) (k_SYMBOL : Addr) (k_END : Addr) (S_CS : Sta Z Z.heap "java/lang/String" "COMPACT_STRINGS" "Z" (.int zc)) (hzc : ¬ zc = 0) (S_WORD : Sta Z Z.heap "com/example/orderly_schema/orderlyschema/input/SqlTokenizer$Kind" "WORD" "Lcom/example/orderly_schema/orderlyschema/input/SqlTokenizer$Kind;" (.ref k_WORD)) (S_QUOTED_NAME : Sta Z Z.heap "com/example/orderly_schema/orderlyschema/input/SqlTokenizer$Kind" "QUOTED_NAME" "Lcom/example/orderly_schema/orderlyschema/input/SqlTokenizer$Kind;" (.ref k_QUOTED_NAME)) (S_STRING : Sta Z Z.heap "com/example/orderly_schema/orderlyschema/input/SqlTokenizer$Kind" "STRING" "Lcom/example/orderly_schema/orderlyschema/input/SqlTokenizer$Kind;" (.ref k_STRING)) (S_NUMBER : Sta Z Z.heap "com/example/orderly_schema/orderlyschema/input/SqlTokenizer$Kind" "NUMBER" "Lcom/example/orderly_schema/orderlyschema/input/SqlTokenizer$Kind;" (.ref k_NUMBER)) (S_SYMBOL : Sta Z Z.heap "com/example/orderly_schema/orderlyschema/input/SqlTokenizer$Kind" "SYMBOL" "Lcom/example/orderly_schema/orderlyschema/input/SqlTokenizer$Kind;" (.ref k_SYMBOL)) (S_END : Sta Z Z.heap "com/example/orderly_schema/orderlyschema/input/SqlTokenizer$Kind" "END" "Lcom/example/orderly_schema/orderlyschema/input/SqlTokenizer$Kind;" (.ref k_END)) (ne_STRING_WORD : k_STRING ≠ k_WORD) (ne_STRING_QUOTED_NAME : k_STRING ≠ k_QUOTED_NAME) (ne_NUMBER_WORD : k_NUMBER ≠ k_WORD) (ne_NUMBER_QUOTED_NAME : k_NUMBER ≠ k_QUOTED_NAME) (ne_SYMBOL_WORD : k_SYMBOL ≠ k_WORD) (ne_SYMBOL_QUOTED_NAME : k_SYMBOL ≠ k_QUOTED_NAME) (ne_END_WORD : k_END ≠ k_WORD) (ne_END_QUOTED_NAME : k_END ≠ k_QUOTED_NAME) (ws : List Jvm.Cond) (a1 : Addr) (kk : Addr) (h0 : Heap) (O0 : Ext Z.heap h0) (F1 : Fld Z h0 a1 "com/example/orderly_schema/orderlyschema/input/SqlTokenizer$Token" "kind" "Lcom/example/orderly_schema/orderlyschema/input/SqlTokenizer$Kind;" (.ref kk)) :
    MetFree l (⟨"com/example/orderly_schema/orderlyschema/input/SqlTokenizer$Token", "isName", "()Z"⟩ : MethodName) (head1 (Jvm.Cond.code (⟨"com/example/orderly_schema/orderlyschema/input/SqlTokenizer$Token", "isName", "()Z"⟩ : MethodName) prog_51_method_4_code 1 (some .boolean) :: ws) RMrmIsN) (fun a U => a = #[(.ref a1)] ∧ Z.Warmed39 U.vm ∧ U.heap = h0) (fun _ _ _ _ _ => True) (fun _ U o U' => ∃ v L, o = .returned v ∧ QrmIsN Z zc k_WORD k_QUOTED_NAME k_STRING k_NUMBER k_SYMBOL k_END a1 kk h0 v U'.heap L ∧ FrameEnd U o U' L RMrmIsN.cells RMrmIsN.slots) := by
  refine MetFree.of_bodySF (plainFor_of_name pn_com_example_orderly_schema_orderlyschema_input_SqlTokenizer_Token) hisR ?_
  intro p e s m args below meth c s₁ Bd hml0 hP hK
  obtain ⟨rfl, hZ, hh⟩ := hP
  have hx := Bd.exec
  have hby := Bd.bytes
  have hlk : meth.locks = false := BodyLoose.notSynchronized Bd
  have hret := Bd.returns
  have hml : c.maxLocals = 1 := hml0
  have hown : s.vm.findClass "com/example/orderly_schema/orderlyschema/input/SqlTokenizer$Token" = some m.cls := findClass_of_methodNamed Bd.named
  have hnm := (name_of_methodNamed Bd.named Bd.method).1
  have X0 : Stand p l e RMrmIsN s m #[(.ref a1)] below meth c s₁ [] 0 0 := Stand.of_body Bd
  have e0 : s₁.heap = h0 := by rw [← hh, Bd.state]; rfl
  have N0 := Fr.nil Z.heap.size
  show OEnd p e below (GN s (QrmIsN Z zc k_WORD k_QUOTED_NAME k_STRING k_NUMBER k_SYMBOL k_END a1 kk h0) RMrmIsN.cells RMrmIsN.slots) _
  refine OEnd.of (fun t k => castTop (ef_rmIsN m a1) k) ?_
  refine OEnd.of (fun t k => XS.aloadN X0.here hx rfl (hb hby d10_0) rfl rfl k) ?_
  show OEnd p e below _ (s₁.setTop (mkF m 1 #[.val (.ref a1)] [(.ref a1)]))
  obtain ⟨T78, X78, e78, st78⟩ := getF X0 hx hZ hown (host := "") (Or.inl (hw _ (List.mem_of_getElem? (i := 50) rfl))) Via.refl e0 F1 (g := (mkF m 1 #[.val (.ref a1)] [(.ref a1)])) rfl rfl (hb hby d10_1)
  refine OEnd.of st78 ?_
  show OEnd p e below _ (T78.setTop (mkF m 4 #[.val (.ref a1)] [(.ref kk)]))
  obtain ⟨T79, X79, e79, st79⟩ := getS2 X78 hx hZ hown (host := "") (Or.inl (hw _ (List.mem_of_getElem? (i := 61) rfl))) Via.refl e78 (Sta.ext O0 S_WORD) (g := (mkF m 4 #[.val (.ref a1)] [(.ref kk)])) rfl (hb hby d10_4)
  refine OEnd.of st79 ?_
  show OEnd p e below _ (T79.setTop (mkF m 7 #[.val (.ref a1)] [(.ref k_WORD), (.ref kk)]))
  by_cases hc80 : (Value.ref kk) = (Value.ref k_WORD)
  · refine OEnd.of (fun t k => Jvm.RoadKit.acmp (g := (mkF m 7 #[.val (.ref a1)] [(.ref k_WORD), (.ref kk)])) X79 hx rfl rfl rfl (pc0 := 7) (pc' := 20) (same := true) rfl (hb hby d10_7) rfl (decide_eq_true hc80) (by decide) (by decide) k) ?_
    show OEnd p e below _ (T79.setTop (mkF m 20 #[.val (.ref a1)] []))
    refine OEnd.of (fun t k => XS.iconst X79.here hx rfl (hb hby d10_20) k) ?_
    show OEnd p e below _ (T79.setTop (mkF m 21 #[.val (.ref a1)] [(.int (1 : Int32))]))
    refine OEnd.of (fun t k => XS.goto X79.here hx rfl (pc0 := 21) (pc' := 25) rfl (hb hby d10_21) (by decide) (by decide) k) ?_
    show OEnd p e below _ (T79.setTop (mkF m 25 #[.val (.ref a1)] [(.int (1 : Int32))]))
    exact OEnd.retN X79 hx hlk e79 (t := .boolean) hret (by simp) (hb hby d10_25) ⟨_, rfl, N0, rfl, (Or.inl ⟨rfl, Or.inl (Value.ref.inj hc80)⟩)⟩ (by decide) (by decide)
  · refine OEnd.of (fun t k => Jvm.RoadKit.acmp (g := (mkF m 7 #[.val (.ref a1)] [(.ref k_WORD), (.ref kk)])) X79 hx rfl rfl rfl (pc0 := 7) (pc' := 10) (same := false) rfl (hb hby d10_7) rfl (decide_eq_false hc80) (by decide) (by decide) k) ?_
    show OEnd p e below _ (T79.setTop (mkF m 10 #[.val (.ref a1)] []))
    refine OEnd.of (fun t k => XS.aloadN X79.here hx rfl (hb hby d10_10) rfl rfl k) ?_
    show OEnd p e below _ (T79.setTop (mkF m 11 #[.val (.ref a1)] [(.ref a1)]))
    obtain ⟨T81, X81, e81, st81⟩ := getF X79 hx hZ hown (host := "") (Or.inl (hw _ (List.mem_of_getElem? (i := 50) rfl))) Via.refl e79 F1 (g := (mkF m 11 #[.val (.ref a1)] [(.ref a1)])) rfl rfl (hb hby d10_11)
    refine OEnd.of st81 ?_
    show OEnd p e below _ (T81.setTop (mkF m 14 #[.val (.ref a1)] [(.ref kk)]))
    obtain ⟨T82, X82, e82, st82⟩ := getS2 X81 hx hZ hown (host := "") (Or.inl (hw _ (List.mem_of_getElem? (i := 64) rfl))) Via.refl e81 (Sta.ext O0 S_QUOTED_NAME) (g := (mkF m 14 #[.val (.ref a1)] [(.ref kk)])) rfl (hb hby d10_14)
    refine OEnd.of st82 ?_
    show OEnd p e below _ (T82.setTop (mkF m 17 #[.val (.ref a1)] [(.ref k_QUOTED_NAME), (.ref kk)]))
    by_cases hc83 : (Value.ref kk) = (Value.ref k_QUOTED_NAME)
    · refine OEnd.of (fun t k => Jvm.RoadKit.acmp (g := (mkF m 17 #[.val (.ref a1)] [(.ref k_QUOTED_NAME), (.ref kk)])) X82 hx rfl rfl rfl (pc0 := 17) (pc' := 20) (same := true) rfl (hb hby d10_17) rfl (decide_eq_true hc83) (by decide) (by decide) k) ?_
      show OEnd p e below _ (T82.setTop (mkF m 20 #[.val (.ref a1)] []))
      refine OEnd.of (fun t k => XS.iconst X82.here hx rfl (hb hby d10_20) k) ?_
      show OEnd p e below _ (T82.setTop (mkF m 21 #[.val (.ref a1)] [(.int (1 : Int32))]))
      refine OEnd.of (fun t k => XS.goto X82.here hx rfl (pc0 := 21) (pc' := 25) rfl (hb hby d10_21) (by decide) (by decide) k) ?_
      show OEnd p e below _ (T82.setTop (mkF m 25 #[.val (.ref a1)] [(.int (1 : Int32))]))
      exact OEnd.retN X82 hx hlk e82 (t := .boolean) hret (by simp) (hb hby d10_25) ⟨_, rfl, N0, rfl, (Or.inl ⟨rfl, Or.inr (Value.ref.inj hc83)⟩)⟩ (by decide) (by decide)
    · refine OEnd.of (fun t k => Jvm.RoadKit.acmp (g := (mkF m 17 #[.val (.ref a1)] [(.ref k_QUOTED_NAME), (.ref kk)])) X82 hx rfl rfl rfl (pc0 := 17) (pc' := 24) (same := false) rfl (hb hby d10_17) rfl (decide_eq_false hc83) (by decide) (by decide) k) ?_
      show OEnd p e below _ (T82.setTop (mkF m 24 #[.val (.ref a1)] []))
      refine OEnd.of (fun t k => XS.iconst X82.here hx rfl (hb hby d10_24) k) ?_
      show OEnd p e below _ (T82.setTop (mkF m 25 #[.val (.ref a1)] [(.int (0 : Int32))]))
      exact OEnd.retN X82 hx hlk e82 (t := .boolean) hret (by simp) (hb hby d10_25) ⟨_, rfl, N0, rfl, (Or.inr ⟨rfl, fun q => q.elim (fun z => hc80 (congrArg Value.ref z)) (fun z => hc83 (congrArg Value.ref z))⟩)⟩ (by decide) (by decide)
theorem own_k1 {p : Int32} {kk a b : Addr} (h : (p = 0 ∧ kk = a) ∨ (p = 1 ∧ kk = b) ∨ (¬ p = 0 ∧ ¬ p = 1 ∧ kk ≠ a ∧ kk ≠ b)) (hp : p = 0 ∨ p = 1) : kk = a ∨ kk = b := by
  rcases h with h | h | h
  · exact Or.inl h.2
  · exact Or.inr h.2
  · exact hp.elim (fun q => absurd q h.1) (fun q => absurd q h.2.1)
theorem own_k0 {p : Int32} {kk a b : Addr} (h : (p = 0 ∧ kk = a) ∨ (p = 1 ∧ kk = b) ∨ (¬ p = 0 ∧ ¬ p = 1 ∧ kk ≠ a ∧ kk ≠ b)) (h0 : ¬ p = 0) (h1 : ¬ p = 1) : ¬ (kk = a ∨ kk = b) := by
  rcases h with h | h | h
  · exact absurd h.1 h0
  · exact absurd h.1 h1
  · exact fun q => q.elim h.2.2.1 h.2.2.2
theorem pd_28I29Lcom2fexample2forderly_schema2forderlyschema2finput2fSqlTokenizer24Kind3b : parseMethodDescriptor "(I)Lcom/example/orderly_schema/orderlyschema/input/SqlTokenizer$Kind;" = some ⟨[.int], some (.object "com/example/orderly_schema/orderlyschema/input/SqlTokenizer$Kind")⟩ := by decide +kernel
theorem pd_28Lcom2fexample2forderly_schema2forderlyschema2finput2fSqlTokenizer24Kind3bLjava2flang2fString3bJ29V : parseMethodDescriptor "(Lcom/example/orderly_schema/orderlyschema/input/SqlTokenizer$Kind;Ljava/lang/String;J)V" = some ⟨[(.object "com/example/orderly_schema/orderlyschema/input/SqlTokenizer$Kind"), (.object "java/lang/String"), .long], none⟩ := by decide +kernel
theorem pd_2829Z : parseMethodDescriptor "()Z" = some ⟨[], some .boolean⟩ := by decide +kernel
theorem pd_285bC29V : parseMethodDescriptor "([C)V" = some ⟨[(.array .char)], none⟩ := by decide +kernel
theorem ef_rm0 (m : MethodId) (p0 : Int32) (p1 : Int32) (p2 : Int32) (p3 : Int32) (q4 : Int64) : entryFrame m #[(.int p0), (.int p1), (.int p2), (.int p3), (.long q4)] maxLocals = mkF m 0 #[.val (.int p0), .val (.int p1), .val (.int p2), .val (.int p3), .val (.long q4), .second, .unset, .unset, .unset, .unset, .unset, .unset, .unset, .unset] [] := by first | (simp [entryFrame, mkF, argsToLocals, Value.category, maxLocals]; done) | rfl
def Qrm0 (Z : State) (zc : Int32) (k_WORD : Addr) (k_QUOTED_NAME : Addr) (k_STRING : Addr) (k_NUMBER : Addr) (k_SYMBOL : Addr) (k_END : Addr) (p0 : Int32) (p1 : Int32) (p2 : Int32) (p3 : Int32) (q4 : Int64) (h0 : Heap) (v : Option Value) (h : Heap) (L : List Loc) : Prop := v = some (.int (1 : Int32)) ∧ Fr Z.heap.size L ∧ Keep h0 h []
set_option maxRecDepth 65536 in
set_option maxHeartbeats 40000000 in
theorem rm0 (l : Launch) (Z : State) (a0 : Array Value) (hw : ∀ d ∈ tables_1, d.before a0 Z = true) (zc : Int32) (k_WORD : Addr) (k_QUOTED_NAME : Addr) (k_STRING : Addr) (k_NUMBER : Addr) (k_SYMBOL : Addr) (k_END : Addr) (S_CS : Sta Z Z.heap "java/lang/String" "COMPACT_STRINGS" "Z" (.int zc)) (hzc : ¬ zc = 0) (S_WORD : Sta Z Z.heap "com/example/orderly_schema/orderlyschema/input/SqlTokenizer$Kind" "WORD" "Lcom/example/orderly_schema/orderlyschema/input/SqlTokenizer$Kind;" (.ref k_WORD)) (S_QUOTED_NAME : Sta Z Z.heap "com/example/orderly_schema/orderlyschema/input/SqlTokenizer$Kind" "QUOTED_NAME" "Lcom/example/orderly_schema/orderlyschema/input/SqlTokenizer$Kind;" (.ref k_QUOTED_NAME)) (S_STRING : Sta Z Z.heap "com/example/orderly_schema/orderlyschema/input/SqlTokenizer$Kind" "STRING" "Lcom/example/orderly_schema/orderlyschema/input/SqlTokenizer$Kind;" (.ref k_STRING)) (S_NUMBER : Sta Z Z.heap "com/example/orderly_schema/orderlyschema/input/SqlTokenizer$Kind" "NUMBER" "Lcom/example/orderly_schema/orderlyschema/input/SqlTokenizer$Kind;" (.ref k_NUMBER)) (S_SYMBOL : Sta Z Z.heap "com/example/orderly_schema/orderlyschema/input/SqlTokenizer$Kind" "SYMBOL" "Lcom/example/orderly_schema/orderlyschema/input/SqlTokenizer$Kind;" (.ref k_SYMBOL)) (S_END : Sta Z Z.heap "com/example/orderly_schema/orderlyschema/input/SqlTokenizer$Kind" "END" "Lcom/example/orderly_schema/orderlyschema/input/SqlTokenizer$Kind;" (.ref k_END)) (ne_STRING_WORD : k_STRING ≠ k_WORD) (ne_STRING_QUOTED_NAME : k_STRING ≠ k_QUOTED_NAME) (ne_NUMBER_WORD : k_NUMBER ≠ k_WORD) (ne_NUMBER_QUOTED_NAME : k_NUMBER ≠ k_QUOTED_NAME) (ne_SYMBOL_WORD : k_SYMBOL ≠ k_WORD) (ne_SYMBOL_QUOTED_NAME : k_SYMBOL ≠ k_QUOTED_NAME) (ne_END_WORD : k_END ≠ k_WORD) (ne_END_QUOTED_NAME : k_END ≠ k_QUOTED_NAME) (hEL : EW Z a0 EL) (ws : List Jvm.Cond) (p0 : Int32) (p1 : Int32) (p2 : Int32) (p3 : Int32) (q4 : Int64) (h0 : Heap) (O0 : Ext Z.heap h0) :
    MetFree l x (head1 (Jvm.Cond.code x code maxLocals ret :: ws) room_1) (fun a U => a = #[(.int p0), (.int p1), (.int p2), (.int p3), (.long q4)] ∧ Z.Warmed39 U.vm ∧ U.heap = h0 ∧ CHv Z EL U.vm h0) (fun _ _ _ _ _ => True) (fun _ U o U' => ∃ v L, o = .returned v ∧ Qrm0 Z zc k_WORD k_QUOTED_NAME k_STRING k_NUMBER k_SYMBOL k_END p0 p1 p2 p3 q4 h0 v U'.heap L ∧ CHr Z EL U.vm U.heap U'.vm U'.heap ∧ ReturnedEndW U o U' L 24 1152) := by
  refine MetFree.of_bodySF (plainFor_of_name pn_com_example_orderly_schema_orderlyschema_input_TokenIsNamePinLaw) hisR ?_
  intro p e s m args below meth c s₁ Bd hml0 hP hK
  obtain ⟨rfl, hZ, hh, hC0⟩ := hP
  have hx := Bd.exec
  have hby := Bd.bytes
  have hlk : meth.locks = false := BodyLoose.notSynchronized Bd
  have hret := Bd.returns
  have hml : c.maxLocals = 14 := hml0
  have hown : s.vm.findClass "com/example/orderly_schema/orderlyschema/input/TokenIsNamePinLaw" = some m.cls := findClass_of_methodNamed Bd.named
  have hnm := (name_of_methodNamed Bd.named Bd.method).1
  have X0 : Stand p l e room_1 (s.setVm s.vm) m #[(.int p0), (.int p1), (.int p2), (.int p3), (.long q4)] below meth c s₁ [] 0 0 := Stand.of_body Bd
  have e0 : s₁.heap = h0 := by rw [← hh, Bd.state]; rfl
  have N0 := Fr.nil Z.heap.size
  have hZ : Z.Warmed39 (s.setVm s.vm).vm := hZ
  have hS0 : s.Since s.vm h0.size := (State.WarmedH.refl s).since _
  have hk0 : h0.size ≤ h0.size := Nat.le_refl _
  have HR0 : CHr Z EL s.vm h0 s.vm h0 := CHr.refl hC0
  have hwS : ∀ d ∈ Bundle.stringAtoms, d.before a0 Z = true := fun d hd => hw d (own_strAtoms d hd)
  show OEnd p e below (GW s Z EL (Qrm0 Z zc k_WORD k_QUOTED_NAME k_STRING k_NUMBER k_SYMBOL k_END p0 p1 p2 p3 q4 h0) 24 1152) _
  refine OEnd.of (fun t k => castTop (ef_rm0 m p0 p1 p2 p3 q4) k) ?_
  refine OEnd.of (fun t k => XS.iloadN X0.here hx rfl (hb hby at_0) rfl k) ?_
  show OEnd p e below _ (s₁.setTop (mkF m 1 #[.val (.int p0), .val (.int p1), .val (.int p2), .val (.int p3), .val (.long q4), .second, .unset, .unset, .unset, .unset, .unset, .unset, .unset, .unset] [(.int p0)]))
  refine OEnd.of (X0.ldcInt hx hown (mvT hZ (hw _ (List.mem_of_getElem? (i := 0) rfl))) (g := (mkF m 1 #[.val (.int p0), .val (.int p1), .val (.int p2), .val (.int p3), .val (.long q4), .second, .unset, .unset, .unset, .unset, .unset, .unset, .unset, .unset] [(.int p0)])) rfl (hb hby at_1)) ?_
  show OEnd p e below _ (s₁.setTop (mkF m 3 #[.val (.int p0), .val (.int p1), .val (.int p2), .val (.int p3), .val (.long q4), .second, .unset, .unset, .unset, .unset, .unset, .unset, .unset, .unset] [(.int (2147483647 : Int32)), (.int p0)]))
  refine OEnd.of (fun t k => XS.iand X0.here hx rfl (hb hby at_3) rfl k) ?_
  show OEnd p e below _ (s₁.setTop (mkF m 4 #[.val (.int p0), .val (.int p1), .val (.int p2), .val (.int p3), .val (.long q4), .second, .unset, .unset, .unset, .unset, .unset, .unset, .unset, .unset] [(.int (p0 &&& (2147483647 : Int32)))]))
  refine OEnd.of (fun t k => XS.bipush X0.here hx rfl (hb hby at_4) k) ?_
  show OEnd p e below _ (s₁.setTop (mkF m 6 #[.val (.int p0), .val (.int p1), .val (.int p2), .val (.int p3), .val (.long q4), .second, .unset, .unset, .unset, .unset, .unset, .unset, .unset, .unset] [(.int (6 : Int32)), (.int (p0 &&& (2147483647 : Int32)))]))
  refine OEnd.of (fun t k => iremM X0 hx rfl (hb hby at_6) rfl (by decide) k) ?_
  show OEnd p e below _ (s₁.setTop (mkF m 7 #[.val (.int p0), .val (.int p1), .val (.int p2), .val (.int p3), .val (.long q4), .second, .unset, .unset, .unset, .unset, .unset, .unset, .unset, .unset] [(.int ((p0 &&& (2147483647 : Int32)) % (6 : Int32)))]))
  refine OEnd.of (fun t k => XS.istore X0.here hx rfl (hb hby at_7) rfl (l' := #[.val (.int p0), .val (.int p1), .val (.int p2), .val (.int p3), .val (.long q4), .second, .val (.int ((p0 &&& (2147483647 : Int32)) % (6 : Int32))), .unset, .unset, .unset, .unset, .unset, .unset, .unset]) rfl k) ?_
  show OEnd p e below _ (s₁.setTop (mkF m 9 #[.val (.int p0), .val (.int p1), .val (.int p2), .val (.int p3), .val (.long q4), .second, .val (.int ((p0 &&& (2147483647 : Int32)) % (6 : Int32))), .unset, .unset, .unset, .unset, .unset, .unset, .unset] []))
  generalize q_xi84 : ((p0 &&& (2147483647 : Int32)) % (6 : Int32)) = xi84
  refine OEnd.of (fun t k => XS.iloadN X0.here hx rfl (hb hby at_9) rfl k) ?_
  show OEnd p e below _ (s₁.setTop (mkF m 10 #[.val (.int p0), .val (.int p1), .val (.int p2), .val (.int p3), .val (.long q4), .second, .val (.int xi84), .unset, .unset, .unset, .unset, .unset, .unset, .unset] [(.int p3)]))
  refine OEnd.of (X0.ldcInt hx hown (mvT hZ (hw _ (List.mem_of_getElem? (i := 0) rfl))) (g := (mkF m 10 #[.val (.int p0), .val (.int p1), .val (.int p2), .val (.int p3), .val (.long q4), .second, .val (.int xi84), .unset, .unset, .unset, .unset, .unset, .unset, .unset] [(.int p3)])) rfl (hb hby at_10)) ?_
  show OEnd p e below _ (s₁.setTop (mkF m 12 #[.val (.int p0), .val (.int p1), .val (.int p2), .val (.int p3), .val (.long q4), .second, .val (.int xi84), .unset, .unset, .unset, .unset, .unset, .unset, .unset] [(.int (2147483647 : Int32)), (.int p3)]))
  refine OEnd.of (fun t k => XS.iand X0.here hx rfl (hb hby at_12) rfl k) ?_
  show OEnd p e below _ (s₁.setTop (mkF m 13 #[.val (.int p0), .val (.int p1), .val (.int p2), .val (.int p3), .val (.long q4), .second, .val (.int xi84), .unset, .unset, .unset, .unset, .unset, .unset, .unset] [(.int (p3 &&& (2147483647 : Int32)))]))
  refine OEnd.of (fun t k => XS.iconst X0.here hx rfl (hb hby at_13) k) ?_
  show OEnd p e below _ (s₁.setTop (mkF m 14 #[.val (.int p0), .val (.int p1), .val (.int p2), .val (.int p3), .val (.long q4), .second, .val (.int xi84), .unset, .unset, .unset, .unset, .unset, .unset, .unset] [(.int (3 : Int32)), (.int (p3 &&& (2147483647 : Int32)))]))
  refine OEnd.of (fun t k => iremM X0 hx rfl (hb hby at_14) rfl (by decide) k) ?_
  show OEnd p e below _ (s₁.setTop (mkF m 15 #[.val (.int p0), .val (.int p1), .val (.int p2), .val (.int p3), .val (.long q4), .second, .val (.int xi84), .unset, .unset, .unset, .unset, .unset, .unset, .unset] [(.int ((p3 &&& (2147483647 : Int32)) % (3 : Int32)))]))
  refine OEnd.of (fun t k => XS.istore X0.here hx rfl (hb hby at_15) rfl (l' := #[.val (.int p0), .val (.int p1), .val (.int p2), .val (.int p3), .val (.long q4), .second, .val (.int xi84), .val (.int ((p3 &&& (2147483647 : Int32)) % (3 : Int32))), .unset, .unset, .unset, .unset, .unset, .unset]) rfl k) ?_
  show OEnd p e below _ (s₁.setTop (mkF m 17 #[.val (.int p0), .val (.int p1), .val (.int p2), .val (.int p3), .val (.long q4), .second, .val (.int xi84), .val (.int ((p3 &&& (2147483647 : Int32)) % (3 : Int32))), .unset, .unset, .unset, .unset, .unset, .unset] []))
  generalize q_xn85 : ((p3 &&& (2147483647 : Int32)) % (3 : Int32)) = xn85
  refine OEnd.of (fun t k => XS.iconst X0.here hx rfl (hb hby at_17) k) ?_
  show OEnd p e below _ (s₁.setTop (mkF m 18 #[.val (.int p0), .val (.int p1), .val (.int p2), .val (.int p3), .val (.long q4), .second, .val (.int xi84), .val (.int xn85), .unset, .unset, .unset, .unset, .unset, .unset] [(.int (0 : Int32))]))
  obtain ⟨T86, h86, k86, X86, e86, E86, A86, st86⟩ := newP X0 hx hZ (hw _ (List.mem_of_getElem? (i := 1) rfl)) e0 (g := (mkF m 18 #[.val (.int p0), .val (.int p1), .val (.int p2), .val (.int p3), .val (.long q4), .second, .val (.int xi84), .val (.int xn85), .unset, .unset, .unset, .unset, .unset, .unset] [(.int (0 : Int32))])) rfl (hb hby at_18) rfl (by decide) (cap := 0) (by decide) (by decide) (by decide) (by decide)
  obtain ⟨b86, g86⟩ : ∃ z, z = h0.size := ⟨_, rfl⟩
  rw [← g86] at A86 st86
  refine OEnd.of st86 ?_
  have V86 : Arv Z h86 b86 k86 .char (0 : Int32) [] (.int (0 : Int32)) := (Arv.new A86 (by decide)).pad (pad_rep [] (.int (0 : Int32)) 0)
  have f86 : Z.heap.size ≤ b86 := Nat.le_trans O0.1 (Nat.le_of_eq g86.symm)
  have CR87 : CHr Z EL s.vm h0 s.vm h86 := CHr.ext E86 HR0.1
  have HR88 : CHr Z EL s.vm h0 s.vm h86 := HR0.trans CR87
  show OEnd p e below _ (T86.setTop (mkF m 20 #[.val (.int p0), .val (.int p1), .val (.int p2), .val (.int p3), .val (.long q4), .second, .val (.int xi84), .val (.int xn85), .unset, .unset, .unset, .unset, .unset, .unset] [(.ref b86)]))
  refine OEnd.of (fun t k => XS.astore X86.here hx rfl (hb hby at_20) rfl rfl (l' := #[.val (.int p0), .val (.int p1), .val (.int p2), .val (.int p3), .val (.long q4), .second, .val (.int xi84), .val (.int xn85), .val (.ref b86), .unset, .unset, .unset, .unset, .unset]) rfl k) ?_
  show OEnd p e below _ (T86.setTop (mkF m 22 #[.val (.int p0), .val (.int p1), .val (.int p2), .val (.int p3), .val (.long q4), .second, .val (.int xi84), .val (.int xn85), .val (.ref b86), .unset, .unset, .unset, .unset, .unset] []))
  refine OEnd.of (fun t k => XS.iconst X86.here hx rfl (hb hby at_22) k) ?_
  show OEnd p e below _ (T86.setTop (mkF m 23 #[.val (.int p0), .val (.int p1), .val (.int p2), .val (.int p3), .val (.long q4), .second, .val (.int xi84), .val (.int xn85), .val (.ref b86), .unset, .unset, .unset, .unset, .unset] [(.int (1 : Int32))]))
  have K90 : Keep h0 h86 [] := ((Keep.refl h0 []).ext E86)
  have O91 : Ext Z.heap h86 := own_extKeep O0 K90 all0
  obtain ⟨T89, h89, k89, X89, e89, E89, A89, st89⟩ := newP X86 hx hZ (hw _ (List.mem_of_getElem? (i := 1) rfl)) e86 (g := (mkF m 23 #[.val (.int p0), .val (.int p1), .val (.int p2), .val (.int p3), .val (.long q4), .second, .val (.int xi84), .val (.int xn85), .val (.ref b86), .unset, .unset, .unset, .unset, .unset] [(.int (1 : Int32))])) rfl (hb hby at_23) rfl (by decide) (cap := 1) (by decide) (by decide) (by decide) (by decide)
  obtain ⟨b89, g89⟩ : ∃ z, z = h86.size := ⟨_, rfl⟩
  rw [← g89] at A89 st89
  refine OEnd.of st89 ?_
  have V89 : Arv Z h89 b89 k89 .char (1 : Int32) [(.int (0 : Int32))] (.int (0 : Int32)) := (Arv.new A89 (by decide)).pad (pad_rep [] (.int (0 : Int32)) 1)
  have f89 : Z.heap.size ≤ b89 := Nat.le_trans O91.1 (Nat.le_of_eq g89.symm)
  have CR92 : CHr Z EL s.vm h86 s.vm h89 := CHr.ext E89 HR88.1
  have HR93 : CHr Z EL s.vm h0 s.vm h89 := HR88.trans CR92
  show OEnd p e below _ (T89.setTop (mkF m 25 #[.val (.int p0), .val (.int p1), .val (.int p2), .val (.int p3), .val (.long q4), .second, .val (.int xi84), .val (.int xn85), .val (.ref b86), .unset, .unset, .unset, .unset, .unset] [(.ref b89)]))
  refine OEnd.of (fun t k => XS.dup X89.here hx rfl (hb hby at_25) rfl rfl k) ?_
  show OEnd p e below _ (T89.setTop (mkF m 26 #[.val (.int p0), .val (.int p1), .val (.int p2), .val (.int p3), .val (.long q4), .second, .val (.int xi84), .val (.int xn85), .val (.ref b86), .unset, .unset, .unset, .unset, .unset] [(.ref b89), (.ref b89)]))
  refine OEnd.of (fun t k => XS.iconst X89.here hx rfl (hb hby at_26) k) ?_
  show OEnd p e below _ (T89.setTop (mkF m 27 #[.val (.int p0), .val (.int p1), .val (.int p2), .val (.int p3), .val (.long q4), .second, .val (.int xi84), .val (.int xn85), .val (.ref b86), .unset, .unset, .unset, .unset, .unset] [(.int (0 : Int32)), (.ref b89), (.ref b89)]))
  refine OEnd.of (fun t k => XS.iloadN X89.here hx rfl (hb hby at_27) rfl k) ?_
  show OEnd p e below _ (T89.setTop (mkF m 28 #[.val (.int p0), .val (.int p1), .val (.int p2), .val (.int p3), .val (.long q4), .second, .val (.int xi84), .val (.int xn85), .val (.ref b86), .unset, .unset, .unset, .unset, .unset] [(.int p1), (.int (0 : Int32)), (.ref b89), (.ref b89)]))
  refine OEnd.of (fun t k => XS.sipush X89.here hx rfl (hb hby at_28) k) ?_
  show OEnd p e below _ (T89.setTop (mkF m 31 #[.val (.int p0), .val (.int p1), .val (.int p2), .val (.int p3), .val (.long q4), .second, .val (.int xi84), .val (.int xn85), .val (.ref b86), .unset, .unset, .unset, .unset, .unset] [(.int (255 : Int32)), (.int p1), (.int (0 : Int32)), (.ref b89), (.ref b89)]))
  refine OEnd.of (fun t k => XS.iand X89.here hx rfl (hb hby at_31) rfl k) ?_
  show OEnd p e below _ (T89.setTop (mkF m 32 #[.val (.int p0), .val (.int p1), .val (.int p2), .val (.int p3), .val (.long q4), .second, .val (.int xi84), .val (.int xn85), .val (.ref b86), .unset, .unset, .unset, .unset, .unset] [(.int (p1 &&& (255 : Int32))), (.int (0 : Int32)), (.ref b89), (.ref b89)]))
  refine OEnd.of (fun t k => XS.i2c X89.here hx rfl (hb hby at_32) rfl k) ?_
  show OEnd p e below _ (T89.setTop (mkF m 33 #[.val (.int p0), .val (.int p1), .val (.int p2), .val (.int p3), .val (.long q4), .second, .val (.int xi84), .val (.int xn85), .val (.ref b86), .unset, .unset, .unset, .unset, .unset] [(.int ((p1 &&& (255 : Int32)).toUInt32.toUInt16.toUInt32.toInt32)), (.int (0 : Int32)), (.ref b89), (.ref b89)]))
  generalize q_ch94 : ((p1 &&& (255 : Int32)).toUInt32.toUInt16.toUInt32.toInt32) = ch94
  have hch_ch94 : ¬ ch94 < 0 ∧ ¬ (255 : Int32) < ch94 := own_ch q_ch94
  have Vc95 := V89
  obtain ⟨cl95, Ar95, q95, S95, N95, H95, G95⟩ := Vc95
  have hin95 : ¬ ((0 : Int32) < 0 ∨ cl95.slots.size ≤ ((0 : Int32)).toNatClampNeg) := inb_of S95 ⟨by decide, by decide⟩
  obtain ⟨T95, h95, X95, e95, W95, st95⟩ := stC X89 hx hZ e89 Ar95 (j := (0 : Int32)) hin95 (g := (mkF m 33 #[.val (.int p0), .val (.int p1), .val (.int p2), .val (.int p3), .val (.long q4), .second, .val (.int xi84), .val (.int xn85), .val (.ref b86), .unset, .unset, .unset, .unset, .unset] [(.int ch94), (.int (0 : Int32)), (.ref b89), (.ref b89)])) rfl rfl (hb hby at_33)
  refine OEnd.of st95 ?_
  rw [(own_narC hch_ch94)] at W95
  have V96 : Arv Z h95 b89 k89 .char (1 : Int32) [(.int ch94)] (.int (0 : Int32)) := Arv.set Ar95 q95 S95 N95 H95 G95 ((own_narC hch_ch94) ▸ fits_nar_char _) W95 0 rfl (Nat.le_of_ble_eq_true rfl)
  have N97 := Fr.snoc X95 N0 f89
  have CR98 : CHr Z EL s.vm h89 s.vm h95 := CHr.wr W95 (own_safeArv hZ.alike V89 (by decide)) HR93.1
  have HR99 : CHr Z EL s.vm h0 s.vm h95 := HR93.trans CR98
  show OEnd p e below _ (T95.setTop (mkF m 34 #[.val (.int p0), .val (.int p1), .val (.int p2), .val (.int p3), .val (.long q4), .second, .val (.int xi84), .val (.int xn85), .val (.ref b86), .unset, .unset, .unset, .unset, .unset] [(.ref b89)]))
  refine OEnd.of (fun t k => XS.astore X95.here hx rfl (hb hby at_34) rfl rfl (l' := #[.val (.int p0), .val (.int p1), .val (.int p2), .val (.int p3), .val (.long q4), .second, .val (.int xi84), .val (.int xn85), .val (.ref b86), .val (.ref b89), .unset, .unset, .unset, .unset]) rfl k) ?_
  show OEnd p e below _ (T95.setTop (mkF m 36 #[.val (.int p0), .val (.int p1), .val (.int p2), .val (.int p3), .val (.long q4), .second, .val (.int xi84), .val (.int xn85), .val (.ref b86), .val (.ref b89), .unset, .unset, .unset, .unset] []))
  refine OEnd.of (fun t k => XS.iconst X95.here hx rfl (hb hby at_36) k) ?_
  show OEnd p e below _ (T95.setTop (mkF m 37 #[.val (.int p0), .val (.int p1), .val (.int p2), .val (.int p3), .val (.long q4), .second, .val (.int xi84), .val (.int xn85), .val (.ref b86), .val (.ref b89), .unset, .unset, .unset, .unset] [(.int (2 : Int32))]))
  have K101 : Keep h86 h95 [] := (((Keep.refl h86 []).ext E89).wr W95 (Or.inr (Nat.le_of_eq g89.symm)))
  have O102 : Ext Z.heap h95 := own_extKeep O91 K101 all0
  obtain ⟨T100, h100, k100, X100, e100, E100, A100, st100⟩ := newP X95 hx hZ (hw _ (List.mem_of_getElem? (i := 1) rfl)) e95 (g := (mkF m 37 #[.val (.int p0), .val (.int p1), .val (.int p2), .val (.int p3), .val (.long q4), .second, .val (.int xi84), .val (.int xn85), .val (.ref b86), .val (.ref b89), .unset, .unset, .unset, .unset] [(.int (2 : Int32))])) rfl (hb hby at_37) rfl (by decide) (cap := 2) (by decide) (by decide) (by decide) (by decide)
  obtain ⟨b100, g100⟩ : ∃ z, z = h95.size := ⟨_, rfl⟩
  rw [← g100] at A100 st100
  refine OEnd.of st100 ?_
  have V100 : Arv Z h100 b100 k100 .char (2 : Int32) [(.int (0 : Int32)), (.int (0 : Int32))] (.int (0 : Int32)) := (Arv.new A100 (by decide)).pad (pad_rep [] (.int (0 : Int32)) 2)
  have f100 : Z.heap.size ≤ b100 := Nat.le_trans O102.1 (Nat.le_of_eq g100.symm)
  have CR103 : CHr Z EL s.vm h95 s.vm h100 := CHr.ext E100 HR99.1
  have HR104 : CHr Z EL s.vm h0 s.vm h100 := HR99.trans CR103
  show OEnd p e below _ (T100.setTop (mkF m 39 #[.val (.int p0), .val (.int p1), .val (.int p2), .val (.int p3), .val (.long q4), .second, .val (.int xi84), .val (.int xn85), .val (.ref b86), .val (.ref b89), .unset, .unset, .unset, .unset] [(.ref b100)]))
  refine OEnd.of (fun t k => XS.dup X100.here hx rfl (hb hby at_39) rfl rfl k) ?_
  show OEnd p e below _ (T100.setTop (mkF m 40 #[.val (.int p0), .val (.int p1), .val (.int p2), .val (.int p3), .val (.long q4), .second, .val (.int xi84), .val (.int xn85), .val (.ref b86), .val (.ref b89), .unset, .unset, .unset, .unset] [(.ref b100), (.ref b100)]))
  refine OEnd.of (fun t k => XS.iconst X100.here hx rfl (hb hby at_40) k) ?_
  show OEnd p e below _ (T100.setTop (mkF m 41 #[.val (.int p0), .val (.int p1), .val (.int p2), .val (.int p3), .val (.long q4), .second, .val (.int xi84), .val (.int xn85), .val (.ref b86), .val (.ref b89), .unset, .unset, .unset, .unset] [(.int (0 : Int32)), (.ref b100), (.ref b100)]))
  refine OEnd.of (fun t k => XS.iloadN X100.here hx rfl (hb hby at_41) rfl k) ?_
  show OEnd p e below _ (T100.setTop (mkF m 42 #[.val (.int p0), .val (.int p1), .val (.int p2), .val (.int p3), .val (.long q4), .second, .val (.int xi84), .val (.int xn85), .val (.ref b86), .val (.ref b89), .unset, .unset, .unset, .unset] [(.int p1), (.int (0 : Int32)), (.ref b100), (.ref b100)]))
  refine OEnd.of (fun t k => XS.sipush X100.here hx rfl (hb hby at_42) k) ?_
  show OEnd p e below _ (T100.setTop (mkF m 45 #[.val (.int p0), .val (.int p1), .val (.int p2), .val (.int p3), .val (.long q4), .second, .val (.int xi84), .val (.int xn85), .val (.ref b86), .val (.ref b89), .unset, .unset, .unset, .unset] [(.int (255 : Int32)), (.int p1), (.int (0 : Int32)), (.ref b100), (.ref b100)]))
  refine OEnd.of (fun t k => XS.iand X100.here hx rfl (hb hby at_45) rfl k) ?_
  show OEnd p e below _ (T100.setTop (mkF m 46 #[.val (.int p0), .val (.int p1), .val (.int p2), .val (.int p3), .val (.long q4), .second, .val (.int xi84), .val (.int xn85), .val (.ref b86), .val (.ref b89), .unset, .unset, .unset, .unset] [(.int (p1 &&& (255 : Int32))), (.int (0 : Int32)), (.ref b100), (.ref b100)]))
  refine OEnd.of (fun t k => XS.i2c X100.here hx rfl (hb hby at_46) rfl k) ?_
  show OEnd p e below _ (T100.setTop (mkF m 47 #[.val (.int p0), .val (.int p1), .val (.int p2), .val (.int p3), .val (.long q4), .second, .val (.int xi84), .val (.int xn85), .val (.ref b86), .val (.ref b89), .unset, .unset, .unset, .unset] [(.int ((p1 &&& (255 : Int32)).toUInt32.toUInt16.toUInt32.toInt32)), (.int (0 : Int32)), (.ref b100), (.ref b100)]))
  generalize q_ch105 : ((p1 &&& (255 : Int32)).toUInt32.toUInt16.toUInt32.toInt32) = ch105
  have hch_ch105 : ¬ ch105 < 0 ∧ ¬ (255 : Int32) < ch105 := own_ch q_ch105
  have Vc106 := V100
  obtain ⟨cl106, Ar106, q106, S106, N106, H106, G106⟩ := Vc106
  have hin106 : ¬ ((0 : Int32) < 0 ∨ cl106.slots.size ≤ ((0 : Int32)).toNatClampNeg) := inb_of S106 ⟨by decide, by decide⟩
  obtain ⟨T106, h106, X106, e106, W106, st106⟩ := stC X100 hx hZ e100 Ar106 (j := (0 : Int32)) hin106 (g := (mkF m 47 #[.val (.int p0), .val (.int p1), .val (.int p2), .val (.int p3), .val (.long q4), .second, .val (.int xi84), .val (.int xn85), .val (.ref b86), .val (.ref b89), .unset, .unset, .unset, .unset] [(.int ch105), (.int (0 : Int32)), (.ref b100), (.ref b100)])) rfl rfl (hb hby at_47)
  refine OEnd.of st106 ?_
  rw [(own_narC hch_ch105)] at W106
  have V107 : Arv Z h106 b100 k100 .char (2 : Int32) [(.int ch105), (.int (0 : Int32))] (.int (0 : Int32)) := Arv.set Ar106 q106 S106 N106 H106 G106 ((own_narC hch_ch105) ▸ fits_nar_char _) W106 0 rfl (Nat.le_of_ble_eq_true rfl)
  have N108 := Fr.snoc X106 N97 f100
  have CR109 : CHr Z EL s.vm h100 s.vm h106 := CHr.wr W106 (own_safeArv hZ.alike V100 (by decide)) HR104.1
  have HR110 : CHr Z EL s.vm h0 s.vm h106 := HR104.trans CR109
  show OEnd p e below _ (T106.setTop (mkF m 48 #[.val (.int p0), .val (.int p1), .val (.int p2), .val (.int p3), .val (.long q4), .second, .val (.int xi84), .val (.int xn85), .val (.ref b86), .val (.ref b89), .unset, .unset, .unset, .unset] [(.ref b100)]))
  refine OEnd.of (fun t k => XS.dup X106.here hx rfl (hb hby at_48) rfl rfl k) ?_
  show OEnd p e below _ (T106.setTop (mkF m 49 #[.val (.int p0), .val (.int p1), .val (.int p2), .val (.int p3), .val (.long q4), .second, .val (.int xi84), .val (.int xn85), .val (.ref b86), .val (.ref b89), .unset, .unset, .unset, .unset] [(.ref b100), (.ref b100)]))
  refine OEnd.of (fun t k => XS.iconst X106.here hx rfl (hb hby at_49) k) ?_
  show OEnd p e below _ (T106.setTop (mkF m 50 #[.val (.int p0), .val (.int p1), .val (.int p2), .val (.int p3), .val (.long q4), .second, .val (.int xi84), .val (.int xn85), .val (.ref b86), .val (.ref b89), .unset, .unset, .unset, .unset] [(.int (1 : Int32)), (.ref b100), (.ref b100)]))
  refine OEnd.of (fun t k => XS.iloadN X106.here hx rfl (hb hby at_50) rfl k) ?_
  show OEnd p e below _ (T106.setTop (mkF m 51 #[.val (.int p0), .val (.int p1), .val (.int p2), .val (.int p3), .val (.long q4), .second, .val (.int xi84), .val (.int xn85), .val (.ref b86), .val (.ref b89), .unset, .unset, .unset, .unset] [(.int p2), (.int (1 : Int32)), (.ref b100), (.ref b100)]))
  refine OEnd.of (fun t k => XS.sipush X106.here hx rfl (hb hby at_51) k) ?_
  show OEnd p e below _ (T106.setTop (mkF m 54 #[.val (.int p0), .val (.int p1), .val (.int p2), .val (.int p3), .val (.long q4), .second, .val (.int xi84), .val (.int xn85), .val (.ref b86), .val (.ref b89), .unset, .unset, .unset, .unset] [(.int (255 : Int32)), (.int p2), (.int (1 : Int32)), (.ref b100), (.ref b100)]))
  refine OEnd.of (fun t k => XS.iand X106.here hx rfl (hb hby at_54) rfl k) ?_
  show OEnd p e below _ (T106.setTop (mkF m 55 #[.val (.int p0), .val (.int p1), .val (.int p2), .val (.int p3), .val (.long q4), .second, .val (.int xi84), .val (.int xn85), .val (.ref b86), .val (.ref b89), .unset, .unset, .unset, .unset] [(.int (p2 &&& (255 : Int32))), (.int (1 : Int32)), (.ref b100), (.ref b100)]))
  refine OEnd.of (fun t k => XS.i2c X106.here hx rfl (hb hby at_55) rfl k) ?_
  show OEnd p e below _ (T106.setTop (mkF m 56 #[.val (.int p0), .val (.int p1), .val (.int p2), .val (.int p3), .val (.long q4), .second, .val (.int xi84), .val (.int xn85), .val (.ref b86), .val (.ref b89), .unset, .unset, .unset, .unset] [(.int ((p2 &&& (255 : Int32)).toUInt32.toUInt16.toUInt32.toInt32)), (.int (1 : Int32)), (.ref b100), (.ref b100)]))
  generalize q_ch111 : ((p2 &&& (255 : Int32)).toUInt32.toUInt16.toUInt32.toInt32) = ch111
  have hch_ch111 : ¬ ch111 < 0 ∧ ¬ (255 : Int32) < ch111 := own_ch q_ch111
  have Vc112 := V107
  obtain ⟨cl112, Ar112, q112, S112, N112, H112, G112⟩ := Vc112
  have hin112 : ¬ ((1 : Int32) < 0 ∨ cl112.slots.size ≤ ((1 : Int32)).toNatClampNeg) := inb_of S112 ⟨by decide, by decide⟩
  obtain ⟨T112, h112, X112, e112, W112, st112⟩ := stC X106 hx hZ e106 Ar112 (j := (1 : Int32)) hin112 (g := (mkF m 56 #[.val (.int p0), .val (.int p1), .val (.int p2), .val (.int p3), .val (.long q4), .second, .val (.int xi84), .val (.int xn85), .val (.ref b86), .val (.ref b89), .unset, .unset, .unset, .unset] [(.int ch111), (.int (1 : Int32)), (.ref b100), (.ref b100)])) rfl rfl (hb hby at_56)
  refine OEnd.of st112 ?_
  rw [(own_narC hch_ch111)] at W112
  have V113 : Arv Z h112 b100 k100 .char (2 : Int32) [(.int ch105), (.int ch111)] (.int (0 : Int32)) := Arv.set Ar112 q112 S112 N112 H112 G112 ((own_narC hch_ch111) ▸ fits_nar_char _) W112 1 rfl (Nat.le_of_ble_eq_true rfl)
  have N114 := Fr.snoc X112 N108 f100
  have CR115 : CHr Z EL s.vm h106 s.vm h112 := CHr.wr W112 (own_safeArv hZ.alike V107 (by decide)) HR110.1
  have HR116 : CHr Z EL s.vm h0 s.vm h112 := HR110.trans CR115
  show OEnd p e below _ (T112.setTop (mkF m 57 #[.val (.int p0), .val (.int p1), .val (.int p2), .val (.int p3), .val (.long q4), .second, .val (.int xi84), .val (.int xn85), .val (.ref b86), .val (.ref b89), .unset, .unset, .unset, .unset] [(.ref b100)]))
  refine OEnd.of (fun t k => XS.astore X112.here hx rfl (hb hby at_57) rfl rfl (l' := #[.val (.int p0), .val (.int p1), .val (.int p2), .val (.int p3), .val (.long q4), .second, .val (.int xi84), .val (.int xn85), .val (.ref b86), .val (.ref b89), .val (.ref b100), .unset, .unset, .unset]) rfl k) ?_
  show OEnd p e below _ (T112.setTop (mkF m 59 #[.val (.int p0), .val (.int p1), .val (.int p2), .val (.int p3), .val (.long q4), .second, .val (.int xi84), .val (.int xn85), .val (.ref b86), .val (.ref b89), .val (.ref b100), .unset, .unset, .unset] []))
  refine OEnd.of (fun t k => XS.iload X112.here hx rfl (hb hby at_59) rfl k) ?_
  show OEnd p e below _ (T112.setTop (mkF m 61 #[.val (.int p0), .val (.int p1), .val (.int p2), .val (.int p3), .val (.long q4), .second, .val (.int xi84), .val (.int xn85), .val (.ref b86), .val (.ref b89), .val (.ref b100), .unset, .unset, .unset] [(.int xn85)]))
  have J117 : ∀ (vm117 : Vm) (T117 : State) (h117 : Heap) (Lo117 : List Loc) (s11 : Addr), Stand p l e room_1 (s.setVm vm117) m #[(.int p0), (.int p1), (.int p2), (.int p3), (.long q4)] below meth c T117 Lo117 11 27 → T117.heap = h117 → Fr Z.heap.size Lo117 → Keep h112 h117 [] → (∃ k0, s.Since vm117 k0 ∧ k0 ≤ h117.size) → Z.Warmed39 (s.setVm vm117).vm → (s.setVm vm117).vm.findClass "com/example/orderly_schema/orderlyschema/input/TokenIsNamePinLaw" = some m.cls → CHr Z EL s.vm h0 vm117 h117 → OEnd p e below (GW s Z EL (Qrm0 Z zc k_WORD k_QUOTED_NAME k_STRING k_NUMBER k_SYMBOL k_END p0 p1 p2 p3 q4 h0) 24 1152) (T117.setTop (mkF m 109 #[.val (.int p0), .val (.int p1), .val (.int p2), .val (.int p3), .val (.long q4), .second, .val (.int xi84), .val (.int xn85), .val (.ref b86), .val (.ref b89), .val (.ref b100), .val (.ref s11), .unset, .unset] [])) := by
    rintro vm117 T117 h117 Lo117 s11 X117 e117 N117 Kj117 ⟨kk117, hS117, hk117⟩ hZ117 hown117 HR117
    show OEnd p e below _ (T117.setTop (mkF m 109 #[.val (.int p0), .val (.int p1), .val (.int p2), .val (.int p3), .val (.long q4), .second, .val (.int xi84), .val (.int xn85), .val (.ref b86), .val (.ref b89), .val (.ref b100), .val (.ref s11), .unset, .unset] []))
    have K119 : Keep h95 h117 [] := (((((Keep.refl h95 []).ext E100).wr W106 (Or.inr (Nat.le_of_eq g100.symm))).wr W112 (Or.inr (Nat.le_of_eq g100.symm))).trans Kj117 all0)
    have O120 : Ext Z.heap h117 := own_extKeep O102 K119 all0
    obtain ⟨T118, h118, X118, e118, E118, A118, D118, -, st118⟩ := newO X117 hx hZ117 hown117 (hw _ (List.mem_of_getElem? (i := 31) rfl)) (hw _ (List.mem_of_getElem? (i := 32) rfl)) (hw _ (List.mem_of_getElem? (i := 33) rfl)) e117 (g := (mkF m 109 #[.val (.int p0), .val (.int p1), .val (.int p2), .val (.int p3), .val (.long q4), .second, .val (.int xi84), .val (.int xn85), .val (.ref b86), .val (.ref b89), .val (.ref b100), .val (.ref s11), .unset, .unset] [])) rfl (hb hby at_109) (by decide) (by decide)
    obtain ⟨b118, g118⟩ : ∃ z, z = h117.size := ⟨_, rfl⟩
    rw [← g118] at A118 D118 st118
    refine OEnd.of st118 ?_
    have f118 : Z.heap.size ≤ b118 := Nat.le_trans O120.1 (Nat.le_of_eq g118.symm)
    have F121 : Fld Z h118 b118 "com/example/orderly_schema/orderlyschema/input/SqlTokenizer$Token" "kind" "Lcom/example/orderly_schema/orderlyschema/input/SqlTokenizer$Kind;" .null := D118 (Or.inr (hw _ (List.mem_of_getElem? (i := 51) rfl))) (ty := (.object "com/example/orderly_schema/orderlyschema/input/SqlTokenizer$Kind")) (by decide)
    have F122 : Fld Z h118 b118 "com/example/orderly_schema/orderlyschema/input/SqlTokenizer$Token" "text" "Ljava/lang/String;" .null := D118 (Or.inr (hw _ (List.mem_of_getElem? (i := 53) rfl))) (ty := (.object "java/lang/String")) (by decide)
    have F123 : Fld Z h118 b118 "com/example/orderly_schema/orderlyschema/input/SqlTokenizer$Token" "line" "J" (.long (0 : Int64)) := D118 (Or.inr (hw _ (List.mem_of_getElem? (i := 55) rfl))) (ty := .long) (by decide)
    have CR124 : CHr Z EL vm117 h117 vm117 h118 := CHr.ext E118 HR117.1
    have HR125 : CHr Z EL s.vm h0 vm117 h118 := HR117.trans CR124
    show OEnd p e below _ (T118.setTop (mkF m 112 #[.val (.int p0), .val (.int p1), .val (.int p2), .val (.int p3), .val (.long q4), .second, .val (.int xi84), .val (.int xn85), .val (.ref b86), .val (.ref b89), .val (.ref b100), .val (.ref s11), .unset, .unset] [(.ref b118)]))
    refine OEnd.of (fun t k => XS.dup X118.here hx rfl (hb hby at_112) rfl rfl k) ?_
    show OEnd p e below _ (T118.setTop (mkF m 113 #[.val (.int p0), .val (.int p1), .val (.int p2), .val (.int p3), .val (.long q4), .second, .val (.int xi84), .val (.int xn85), .val (.ref b86), .val (.ref b89), .val (.ref b100), .val (.ref s11), .unset, .unset] [(.ref b118), (.ref b118)]))
    refine OEnd.of (fun t k => XS.iload X118.here hx rfl (hb hby at_113) rfl k) ?_
    show OEnd p e below _ (T118.setTop (mkF m 115 #[.val (.int p0), .val (.int p1), .val (.int p2), .val (.int p3), .val (.long q4), .second, .val (.int xi84), .val (.int xn85), .val (.ref b86), .val (.ref b89), .val (.ref b100), .val (.ref s11), .unset, .unset] [(.int xi84), (.ref b118), (.ref b118)]))
    have K127 : Keep h117 h118 [] := ((Keep.refl h117 []).ext E118)
    have O128 : Ext Z.heap h118 := own_extKeep O120 K127 all0
    obtain ⟨_, _, ⟨T126, L126, k126, n126⟩, -, X126, ⟨Lc126, hQ126, l126, y126, z126⟩, st126⟩ := Jvm.LawKit.callS X118 hx (y := (⟨"com/example/orderly_schema/orderlyschema/input/TokenIsNamePinLaw", "kindOf", "(I)Lcom/example/orderly_schema/orderlyschema/input/SqlTokenizer$Kind;"⟩ : MethodName)) hown117 (mvT hZ117 (hw _ (List.mem_of_getElem? (i := 34) rfl))) (mvT hZ117 (hw _ (List.mem_of_getElem? (i := 35) rfl))) (mvT hZ117 (hw _ (List.mem_of_getElem? (i := 36) rfl))) (mvT hZ117 (hw _ (List.mem_of_getElem? (i := 37) rfl))) (by decide) (backOf (W := 2) (rmKind l Z a0 hw zc k_WORD k_QUOTED_NAME k_STRING k_NUMBER k_SYMBOL k_END S_CS hzc S_WORD S_QUOTED_NAME S_STRING S_NUMBER S_SYMBOL S_END ne_STRING_WORD ne_STRING_QUOTED_NAME ne_NUMBER_WORD ne_NUMBER_QUOTED_NAME ne_SYMBOL_WORD ne_SYMBOL_QUOTED_NAME ne_END_WORD ne_END_QUOTED_NAME [] xi84 h118 O128 ) hZ117 (hw _ (List.mem_of_getElem? (i := 37) rfl)) (hw _ (List.mem_of_getElem? (i := 36) rfl)) (by decide) (by decide)) (g := (mkF m 115 #[.val (.int p0), .val (.int p1), .val (.int p2), .val (.int p3), .val (.long q4), .second, .val (.int xi84), .val (.int xn85), .val (.ref b86), .val (.ref b89), .val (.ref b100), .val (.ref s11), .unset, .unset] [(.int xi84), (.ref b118), (.ref b118)])) rfl (by rw [hml]; rfl) (argsL := [(.int xi84)]) (rest := [(.ref b118), (.ref b118)]) (lenOf pd_28I29Lcom2fexample2forderly_schema2forderlyschema2finput2fSqlTokenizer24Kind3b rfl) rfl (by show 2 * 0 + _ ≤ _; exact Nat.le_of_eq rfl) (hb hby at_115) (fun _ _ => ⟨rfl, e118, (by decide : 12 + 0 ≤ _), (by decide : 30 + 0 ≤ _)⟩)
    dsimp only [Pt.U, Pt.locs, Pt.cells, Pt.slots] at X126 l126 y126 z126 st126 hQ126
    subst l126 y126 z126
    obtain ⟨kk_129, rfl, Nq126, e126, hk_130⟩ := hQ126
    have N131 := Fr.app N117 Nq126
    refine OEnd.of st126 ?_
    show OEnd p e below _ (T126.setTop (mkF m 118 #[.val (.int p0), .val (.int p1), .val (.int p2), .val (.int p3), .val (.long q4), .second, .val (.int xi84), .val (.int xn85), .val (.ref b86), .val (.ref b89), .val (.ref b100), .val (.ref s11), .unset, .unset] [(.ref kk_129), (.ref b118), (.ref b118)]))
    refine OEnd.of (fun t k => XS.aload X126.here hx rfl (hb hby at_118) rfl rfl k) ?_
    show OEnd p e below _ (T126.setTop (mkF m 120 #[.val (.int p0), .val (.int p1), .val (.int p2), .val (.int p3), .val (.long q4), .second, .val (.int xi84), .val (.int xn85), .val (.ref b86), .val (.ref b89), .val (.ref b100), .val (.ref s11), .unset, .unset] [(.ref s11), (.ref kk_129), (.ref b118), (.ref b118)]))
    refine OEnd.of (fun t k => XS.lload X126.here hx rfl (hb hby at_120) rfl k) ?_
    show OEnd p e below _ (T126.setTop (mkF m 122 #[.val (.int p0), .val (.int p1), .val (.int p2), .val (.int p3), .val (.long q4), .second, .val (.int xi84), .val (.int xn85), .val (.ref b86), .val (.ref b89), .val (.ref b100), .val (.ref s11), .unset, .unset] [(.long q4), (.ref s11), (.ref kk_129), (.ref b118), (.ref b118)]))
    obtain ⟨_, _, ⟨T132, L132, k132, n132⟩, -, X132, ⟨Lc132, hQ132, l132, y132, z132⟩, st132⟩ := X126.specialBack hx (y := (⟨"com/example/orderly_schema/orderlyschema/input/SqlTokenizer$Token", "<init>", "(Lcom/example/orderly_schema/orderlyschema/input/SqlTokenizer$Kind;Ljava/lang/String;J)V"⟩ : MethodName)) rfl hown117 (mvT hZ117 (hw _ (List.mem_of_getElem? (i := 41) rfl))) (mvT hZ117 (hw _ (List.mem_of_getElem? (i := 42) rfl))) (mvT hZ117 (hw _ (List.mem_of_getElem? (i := 43) rfl))) (by decide) (backOf (W := 1) (rmTok l Z a0 hw zc k_WORD k_QUOTED_NAME k_STRING k_NUMBER k_SYMBOL k_END S_CS hzc S_WORD S_QUOTED_NAME S_STRING S_NUMBER S_SYMBOL S_END ne_STRING_WORD ne_STRING_QUOTED_NAME ne_NUMBER_WORD ne_NUMBER_QUOTED_NAME ne_SYMBOL_WORD ne_SYMBOL_QUOTED_NAME ne_END_WORD ne_END_QUOTED_NAME [] b118 kk_129 s11 q4 h118 O128 A118 F121 F122 F123 f118) hZ117 (hw _ (List.mem_of_getElem? (i := 43) rfl)) (hw _ (List.mem_of_getElem? (i := 33) rfl)) (by decide) (by decide)) (g := (mkF m 122 #[.val (.int p0), .val (.int p1), .val (.int p2), .val (.int p3), .val (.long q4), .second, .val (.int xi84), .val (.int xn85), .val (.ref b86), .val (.ref b89), .val (.ref b100), .val (.ref s11), .unset, .unset] [(.long q4), (.ref s11), (.ref kk_129), (.ref b118), (.ref b118)])) rfl (by rw [hml]; rfl) (Steps.refl _) (a := b118) (argsL := [(.ref kk_129), (.ref s11), (.long q4)]) (rest := [(.ref b118)]) (lenOf pd_28Lcom2fexample2forderly_schema2forderlyschema2finput2fSqlTokenizer24Kind3bLjava2flang2fString3bJ29V rfl) rfl (by show 2 * 0 + _ ≤ _; exact Nat.le_of_eq rfl) (hb hby at_122) (fun _ _ => ⟨rfl, e126, (by decide : 12 + 0 ≤ _), (by decide : 30 + 0 ≤ _)⟩)
    dsimp only [Pt.U, Pt.locs, Pt.cells, Pt.slots] at X132 l132 y132 z132 st132 hQ132
    subst l132 y132 z132
    obtain ⟨h132, e132⟩ : ∃ z, T132.heap = z := ⟨_, rfl⟩
    rw [e132] at hQ132
    obtain ⟨rfl, Nq132, Kq132, E_133, Fk_134⟩ := hQ132
    have N135 := Fr.app N131 Nq132
    have CR136 : CHr Z EL vm117 h118 vm117 h132 := CHr.keep Kq132 (allS (Safe.exa hZ117.alike A118 (by decide) (by decide)) all0) HR125.1
    have HR137 : CHr Z EL s.vm h0 vm117 h132 := HR125.trans CR136
    refine OEnd.of (fun t k => st132.trans k) ?_
    show OEnd p e below _ (T132.setTop (mkF m 125 #[.val (.int p0), .val (.int p1), .val (.int p2), .val (.int p3), .val (.long q4), .second, .val (.int xi84), .val (.int xn85), .val (.ref b86), .val (.ref b89), .val (.ref b100), .val (.ref s11), .unset, .unset] [(.ref b118)]))
    refine OEnd.of (fun t k => XS.astore X132.here hx rfl (hb hby at_125) rfl rfl (l' := #[.val (.int p0), .val (.int p1), .val (.int p2), .val (.int p3), .val (.long q4), .second, .val (.int xi84), .val (.int xn85), .val (.ref b86), .val (.ref b89), .val (.ref b100), .val (.ref s11), .val (.ref b118), .unset]) rfl k) ?_
    show OEnd p e below _ (T132.setTop (mkF m 127 #[.val (.int p0), .val (.int p1), .val (.int p2), .val (.int p3), .val (.long q4), .second, .val (.int xi84), .val (.int xn85), .val (.ref b86), .val (.ref b89), .val (.ref b100), .val (.ref s11), .val (.ref b118), .unset] []))
    refine OEnd.of (fun t k => XS.iload X132.here hx rfl (hb hby at_127) rfl k) ?_
    show OEnd p e below _ (T132.setTop (mkF m 129 #[.val (.int p0), .val (.int p1), .val (.int p2), .val (.int p3), .val (.long q4), .second, .val (.int xi84), .val (.int xn85), .val (.ref b86), .val (.ref b89), .val (.ref b100), .val (.ref s11), .val (.ref b118), .unset] [(.int xi84)]))
    have J138 : ∀ (vm138 : Vm) (T138 : State) (Lo138 : List Loc) (e143 : Int32), Stand p l e room_1 (s.setVm vm138) m #[(.int p0), (.int p1), (.int p2), (.int p3), (.long q4)] below meth c T138 Lo138 12 30 → T138.heap = h132 → Fr Z.heap.size Lo138 → (∃ k0, s.Since vm138 k0 ∧ k0 ≤ h132.size) → Z.Warmed39 (s.setVm vm138).vm → (s.setVm vm138).vm.findClass "com/example/orderly_schema/orderlyschema/input/TokenIsNamePinLaw" = some m.cls → CHr Z EL s.vm h0 vm138 h132 → ((e143 = 1 ∧ (kk_129 = k_WORD ∨ kk_129 = k_QUOTED_NAME)) ∨ (e143 = 0 ∧ ¬ (kk_129 = k_WORD ∨ kk_129 = k_QUOTED_NAME))) → OEnd p e below (GW s Z EL (Qrm0 Z zc k_WORD k_QUOTED_NAME k_STRING k_NUMBER k_SYMBOL k_END p0 p1 p2 p3 q4 h0) 24 1152) (T138.setTop (mkF m 143 #[.val (.int p0), .val (.int p1), .val (.int p2), .val (.int p3), .val (.long q4), .second, .val (.int xi84), .val (.int xn85), .val (.ref b86), .val (.ref b89), .val (.ref b100), .val (.ref s11), .val (.ref b118), .unset] [(.int e143)])) := by
      rintro vm138 T138 Lo138 e143 X138 e138 N138 ⟨kk138, hS138, hk138⟩ hZ138 hown138 HR138 h143
      show OEnd p e below _ (T138.setTop (mkF m 143 #[.val (.int p0), .val (.int p1), .val (.int p2), .val (.int p3), .val (.long q4), .second, .val (.int xi84), .val (.int xn85), .val (.ref b86), .val (.ref b89), .val (.ref b100), .val (.ref s11), .val (.ref b118), .unset] [(.int e143)]))
      refine OEnd.of (fun t k => XS.istore X138.here hx rfl (hb hby at_143) rfl (l' := #[.val (.int p0), .val (.int p1), .val (.int p2), .val (.int p3), .val (.long q4), .second, .val (.int xi84), .val (.int xn85), .val (.ref b86), .val (.ref b89), .val (.ref b100), .val (.ref s11), .val (.ref b118), .val (.int e143)]) rfl k) ?_
      show OEnd p e below _ (T138.setTop (mkF m 145 #[.val (.int p0), .val (.int p1), .val (.int p2), .val (.int p3), .val (.long q4), .second, .val (.int xi84), .val (.int xn85), .val (.ref b86), .val (.ref b89), .val (.ref b100), .val (.ref s11), .val (.ref b118), .val (.int e143)] []))
      refine OEnd.of (fun t k => XS.aload X138.here hx rfl (hb hby at_145) rfl rfl k) ?_
      show OEnd p e below _ (T138.setTop (mkF m 147 #[.val (.int p0), .val (.int p1), .val (.int p2), .val (.int p3), .val (.long q4), .second, .val (.int xi84), .val (.int xn85), .val (.ref b86), .val (.ref b89), .val (.ref b100), .val (.ref s11), .val (.ref b118), .val (.int e143)] [(.ref b118)]))
      have K140 : Keep h118 h132 [b118] := ((Keep.refl h118 [b118]).trans Kq132 (allS (Or.inl (List.mem_of_getElem? (i := 0) rfl)) all0))
      have O141 : Ext Z.heap h132 := own_extKeep O128 K140 (allS f118 all0)
      obtain ⟨cq139, kq139, q139a, q139b, q139c⟩ := isOf hZ138 e138 E_133
      obtain ⟨_, _, ⟨T139, L139, k139, n139⟩, -, X139, ⟨Lc139, hQ139, l139, y139, z139⟩, st139⟩ := X138.virtualBack hx (y := (⟨"com/example/orderly_schema/orderlyschema/input/SqlTokenizer$Token", "isName", "()Z"⟩ : MethodName)) (z := (⟨"com/example/orderly_schema/orderlyschema/input/SqlTokenizer$Token", "isName", "()Z"⟩ : MethodName)) hown138 (mvT hZ138 (hw _ (List.mem_of_getElem? (i := 56) rfl))) (mvT hZ138 (hw _ (List.mem_of_getElem? (i := 57) rfl))) (notFace_of_selects (args := #[]) (mvT hZ138 (hw _ (List.mem_of_getElem? (i := 59) rfl)))) (mvT hZ138 (hw _ (List.mem_of_getElem? (i := 59) rfl))) (mvT hZ138 (hw _ (List.mem_of_getElem? (i := 58) rfl))) (by decide) (backOf (W := 0) (rmIsN l Z a0 hw zc k_WORD k_QUOTED_NAME k_STRING k_NUMBER k_SYMBOL k_END S_CS hzc S_WORD S_QUOTED_NAME S_STRING S_NUMBER S_SYMBOL S_END ne_STRING_WORD ne_STRING_QUOTED_NAME ne_NUMBER_WORD ne_NUMBER_QUOTED_NAME ne_SYMBOL_WORD ne_SYMBOL_QUOTED_NAME ne_END_WORD ne_END_QUOTED_NAME [] b118 kk_129 h132 O141 Fk_134) hZ138 (hw _ (List.mem_of_getElem? (i := 60) rfl)) (hw _ (List.mem_of_getElem? (i := 33) rfl)) (by decide) (by decide)) q139a q139c (g := (mkF m 147 #[.val (.int p0), .val (.int p1), .val (.int p2), .val (.int p3), .val (.long q4), .second, .val (.int xi84), .val (.int xn85), .val (.ref b86), .val (.ref b89), .val (.ref b100), .val (.ref s11), .val (.ref b118), .val (.int e143)] [(.ref b118)])) rfl (by rw [hml]; rfl) (Steps.refl _) (argsL := []) (rest := []) (lenOf pd_2829Z rfl) rfl (by show 2 * 0 + _ ≤ _; exact Nat.le_of_eq rfl) (hb hby at_147) (fun _ _ => ⟨rfl, e138, (by decide : 12 + 0 ≤ _), (by decide : 30 + 0 ≤ _)⟩)
      dsimp only [Pt.U, Pt.locs, Pt.cells, Pt.slots] at X139 l139 y139 z139 st139 hQ139
      subst l139 y139 z139
      obtain ⟨bb_142, rfl, Nq139, e139, hb_143⟩ := hQ139
      have N144 := Fr.app N138 Nq139
      refine OEnd.of (fun t k => st139.trans k) ?_
      show OEnd p e below _ (T139.setTop (mkF m 150 #[.val (.int p0), .val (.int p1), .val (.int p2), .val (.int p3), .val (.long q4), .second, .val (.int xi84), .val (.int xn85), .val (.ref b86), .val (.ref b89), .val (.ref b100), .val (.ref s11), .val (.ref b118), .val (.int e143)] [(.int bb_142)]))
      refine OEnd.of (fun t k => XS.iload X139.here hx rfl (hb hby at_150) rfl k) ?_
      show OEnd p e below _ (T139.setTop (mkF m 152 #[.val (.int p0), .val (.int p1), .val (.int p2), .val (.int p3), .val (.long q4), .second, .val (.int xi84), .val (.int xn85), .val (.ref b86), .val (.ref b89), .val (.ref b100), .val (.ref s11), .val (.ref b118), .val (.int e143)] [(.int e143), (.int bb_142)]))
      refine OEnd.of (fun t k => XS.icmpNo X139.here hx rfl (hb hby at_152) rfl (teq (own_same hb_143 h143)).2 k) ?_
      show OEnd p e below _ (T139.setTop (mkF m 155 #[.val (.int p0), .val (.int p1), .val (.int p2), .val (.int p3), .val (.long q4), .second, .val (.int xi84), .val (.int xn85), .val (.ref b86), .val (.ref b89), .val (.ref b100), .val (.ref s11), .val (.ref b118), .val (.int e143)] []))
      refine OEnd.of (fun t k => XS.iconst X139.here hx rfl (hb hby at_155) k) ?_
      show OEnd p e below _ (T139.setTop (mkF m 156 #[.val (.int p0), .val (.int p1), .val (.int p2), .val (.int p3), .val (.long q4), .second, .val (.int xi84), .val (.int xn85), .val (.ref b86), .val (.ref b89), .val (.ref b100), .val (.ref s11), .val (.ref b118), .val (.int e143)] [(.int (1 : Int32))]))
      refine OEnd.of (fun t k => XS.goto X139.here hx rfl (pc0 := 156) (pc' := 160) rfl (hb hby at_156) (by decide) (by decide) k) ?_
      show OEnd p e below _ (T139.setTop (mkF m 160 #[.val (.int p0), .val (.int p1), .val (.int p2), .val (.int p3), .val (.long q4), .second, .val (.int xi84), .val (.int xn85), .val (.ref b86), .val (.ref b89), .val (.ref b100), .val (.ref s11), .val (.ref b118), .val (.int e143)] [(.int (1 : Int32))]))
      have K145 : Keep h0 h95 [] := ((K90.ext E89).wr W95 (Or.inr (Nat.le_trans K90.1 (Nat.le_of_eq g89.symm))))
      have K146 : Keep h0 h117 [] := ((((K145.ext E100).wr W106 (Or.inr (Nat.le_trans K145.1 (Nat.le_of_eq g100.symm)))).wr W112 (Or.inr (Nat.le_trans K145.1 (Nat.le_of_eq g100.symm)))).trans Kj117 all0)
      have K147 : Keep h0 h132 [] := ((((((((K90.ext E89).wr W95 (Or.inr (Nat.le_trans K90.1 (Nat.le_of_eq g89.symm)))).ext E100).wr W106 (Or.inr (Nat.le_trans K145.1 (Nat.le_of_eq g100.symm)))).wr W112 (Or.inr (Nat.le_trans K145.1 (Nat.le_of_eq g100.symm)))).trans Kj117 all0).ext E118).trans Kq132 (allS (Or.inr (Nat.le_trans K146.1 (Nat.le_of_eq g118.symm))) all0))
      exact OEnd.retNW X139 hx hlk e139 hh hS138 hk138 hEL hZ138 HR138 (t := .boolean) hret (by simp) (hb hby at_160) ⟨rfl, N144, K147⟩ (by decide) (by decide)
    by_cases hc148 : xi84 = (0 : Int32)
    · refine OEnd.of (fun t k => XS.ifYes X132.here hx rfl (pc0 := 129) (pc' := 138) rfl (hb hby at_129) rfl ((if0 _ _).trans (teq hc148).1) (by decide) (by decide) k) ?_
      show OEnd p e below _ (T132.setTop (mkF m 138 #[.val (.int p0), .val (.int p1), .val (.int p2), .val (.int p3), .val (.long q4), .second, .val (.int xi84), .val (.int xn85), .val (.ref b86), .val (.ref b89), .val (.ref b100), .val (.ref s11), .val (.ref b118), .unset] []))
      refine OEnd.of (fun t k => XS.iconst X132.here hx rfl (hb hby at_138) k) ?_
      show OEnd p e below _ (T132.setTop (mkF m 139 #[.val (.int p0), .val (.int p1), .val (.int p2), .val (.int p3), .val (.long q4), .second, .val (.int xi84), .val (.int xn85), .val (.ref b86), .val (.ref b89), .val (.ref b100), .val (.ref s11), .val (.ref b118), .unset] [(.int (1 : Int32))]))
      refine OEnd.of (fun t k => XS.goto X132.here hx rfl (pc0 := 139) (pc' := 143) rfl (hb hby at_139) (by decide) (by decide) k) ?_
      show OEnd p e below _ (T132.setTop (mkF m 143 #[.val (.int p0), .val (.int p1), .val (.int p2), .val (.int p3), .val (.long q4), .second, .val (.int xi84), .val (.int xn85), .val (.ref b86), .val (.ref b89), .val (.ref b100), .val (.ref s11), .val (.ref b118), .unset] [(.int (1 : Int32))]))
      have K149 : Keep h117 h132 [] := (K127.trans Kq132 (allS (Or.inr (Nat.le_of_eq g118.symm)) all0))
      exact J138 _ T132 _ (1 : Int32) X132 e132 N135 ⟨_, hS117, (Nat.le_trans hk117 K149.1)⟩ hZ117 hown117 HR137 (Or.inl ⟨rfl, own_k1 hk_130 (Or.inl hc148)⟩)
    · refine OEnd.of (fun t k => XS.ifNo X132.here hx rfl (hb hby at_129) rfl ((if0 _ _).trans (feq hc148).1) k) ?_
      show OEnd p e below _ (T132.setTop (mkF m 132 #[.val (.int p0), .val (.int p1), .val (.int p2), .val (.int p3), .val (.long q4), .second, .val (.int xi84), .val (.int xn85), .val (.ref b86), .val (.ref b89), .val (.ref b100), .val (.ref s11), .val (.ref b118), .unset] []))
      refine OEnd.of (fun t k => XS.iload X132.here hx rfl (hb hby at_132) rfl k) ?_
      show OEnd p e below _ (T132.setTop (mkF m 134 #[.val (.int p0), .val (.int p1), .val (.int p2), .val (.int p3), .val (.long q4), .second, .val (.int xi84), .val (.int xn85), .val (.ref b86), .val (.ref b89), .val (.ref b100), .val (.ref s11), .val (.ref b118), .unset] [(.int xi84)]))
      refine OEnd.of (fun t k => XS.iconst X132.here hx rfl (hb hby at_134) k) ?_
      show OEnd p e below _ (T132.setTop (mkF m 135 #[.val (.int p0), .val (.int p1), .val (.int p2), .val (.int p3), .val (.long q4), .second, .val (.int xi84), .val (.int xn85), .val (.ref b86), .val (.ref b89), .val (.ref b100), .val (.ref s11), .val (.ref b118), .unset] [(.int (1 : Int32)), (.int xi84)]))
      by_cases hc150 : xi84 = (1 : Int32)
      · refine OEnd.of (fun t k => XS.icmpNo X132.here hx rfl (hb hby at_135) rfl (teq hc150).2 k) ?_
        show OEnd p e below _ (T132.setTop (mkF m 138 #[.val (.int p0), .val (.int p1), .val (.int p2), .val (.int p3), .val (.long q4), .second, .val (.int xi84), .val (.int xn85), .val (.ref b86), .val (.ref b89), .val (.ref b100), .val (.ref s11), .val (.ref b118), .unset] []))
        refine OEnd.of (fun t k => XS.iconst X132.here hx rfl (hb hby at_138) k) ?_
        show OEnd p e below _ (T132.setTop (mkF m 139 #[.val (.int p0), .val (.int p1), .val (.int p2), .val (.int p3), .val (.long q4), .second, .val (.int xi84), .val (.int xn85), .val (.ref b86), .val (.ref b89), .val (.ref b100), .val (.ref s11), .val (.ref b118), .unset] [(.int (1 : Int32))]))
        refine OEnd.of (fun t k => XS.goto X132.here hx rfl (pc0 := 139) (pc' := 143) rfl (hb hby at_139) (by decide) (by decide) k) ?_
        show OEnd p e below _ (T132.setTop (mkF m 143 #[.val (.int p0), .val (.int p1), .val (.int p2), .val (.int p3), .val (.long q4), .second, .val (.int xi84), .val (.int xn85), .val (.ref b86), .val (.ref b89), .val (.ref b100), .val (.ref s11), .val (.ref b118), .unset] [(.int (1 : Int32))]))
        have K151 : Keep h117 h132 [] := (K127.trans Kq132 (allS (Or.inr (Nat.le_of_eq g118.symm)) all0))
        exact J138 _ T132 _ (1 : Int32) X132 e132 N135 ⟨_, hS117, (Nat.le_trans hk117 K151.1)⟩ hZ117 hown117 HR137 (Or.inl ⟨rfl, own_k1 hk_130 (Or.inr hc150)⟩)
      · refine OEnd.of (fun t k => XS.icmpYes X132.here hx rfl (pc0 := 135) (pc' := 142) rfl (hb hby at_135) rfl (feq hc150).2 (by decide) (by decide) k) ?_
        show OEnd p e below _ (T132.setTop (mkF m 142 #[.val (.int p0), .val (.int p1), .val (.int p2), .val (.int p3), .val (.long q4), .second, .val (.int xi84), .val (.int xn85), .val (.ref b86), .val (.ref b89), .val (.ref b100), .val (.ref s11), .val (.ref b118), .unset] []))
        refine OEnd.of (fun t k => XS.iconst X132.here hx rfl (hb hby at_142) k) ?_
        show OEnd p e below _ (T132.setTop (mkF m 143 #[.val (.int p0), .val (.int p1), .val (.int p2), .val (.int p3), .val (.long q4), .second, .val (.int xi84), .val (.int xn85), .val (.ref b86), .val (.ref b89), .val (.ref b100), .val (.ref s11), .val (.ref b118), .unset] [(.int (0 : Int32))]))
        have K152 : Keep h117 h132 [] := (K127.trans Kq132 (allS (Or.inr (Nat.le_of_eq g118.symm)) all0))
        exact J138 _ T132 _ (0 : Int32) X132 e132 N135 ⟨_, hS117, (Nat.le_trans hk117 K152.1)⟩ hZ117 hown117 HR137 (Or.inr ⟨rfl, own_k0 hk_130 hc148 hc150⟩)
  by_cases hc153 : xn85 = (0 : Int32)
  · refine OEnd.of (fun t k => XS.ifNo X112.here hx rfl (hb hby at_61) rfl ((if0 _ _).trans (teq hc153).2) k) ?_
    show OEnd p e below _ (T112.setTop (mkF m 64 #[.val (.int p0), .val (.int p1), .val (.int p2), .val (.int p3), .val (.long q4), .second, .val (.int xi84), .val (.int xn85), .val (.ref b86), .val (.ref b89), .val (.ref b100), .unset, .unset, .unset] []))
    have K155 : Keep h95 h112 [] := ((((Keep.refl h95 []).ext E100).wr W106 (Or.inr (Nat.le_of_eq g100.symm))).wr W112 (Or.inr (Nat.le_of_eq g100.symm)))
    have O156 : Ext Z.heap h112 := own_extKeep O102 K155 all0
    obtain ⟨T154, h154, X154, e154, E154, A154, D154, -, st154⟩ := newO X112 hx hZ hown (hw _ (List.mem_of_getElem? (i := 2) rfl)) (hw _ (List.mem_of_getElem? (i := 3) rfl)) (hw _ (List.mem_of_getElem? (i := 4) rfl)) e112 (g := (mkF m 64 #[.val (.int p0), .val (.int p1), .val (.int p2), .val (.int p3), .val (.long q4), .second, .val (.int xi84), .val (.int xn85), .val (.ref b86), .val (.ref b89), .val (.ref b100), .unset, .unset, .unset] [])) rfl (hb hby at_64) (by decide) (by decide)
    obtain ⟨b154, g154⟩ : ∃ z, z = h112.size := ⟨_, rfl⟩
    rw [← g154] at A154 D154 st154
    refine OEnd.of st154 ?_
    have f154 : Z.heap.size ≤ b154 := Nat.le_trans O156.1 (Nat.le_of_eq g154.symm)
    have F157 : Fld Z h154 b154 "java/lang/String" "coder" "B" (.int (0 : Int32)) := D154 (Or.inr (hw _ (List.mem_of_getElem? (i := 28) rfl))) (ty := .byte) (by decide)
    have F158 : Fld Z h154 b154 "java/lang/String" "value" "[B" .null := D154 (Or.inr (hw _ (List.mem_of_getElem? (i := 30) rfl))) (ty := (.array .byte)) (by decide)
    have CR159 : CHr Z EL s.vm h112 s.vm h154 := CHr.ext E154 HR116.1
    have HR160 : CHr Z EL s.vm h0 s.vm h154 := HR116.trans CR159
    show OEnd p e below _ (T154.setTop (mkF m 67 #[.val (.int p0), .val (.int p1), .val (.int p2), .val (.int p3), .val (.long q4), .second, .val (.int xi84), .val (.int xn85), .val (.ref b86), .val (.ref b89), .val (.ref b100), .unset, .unset, .unset] [(.ref b154)]))
    refine OEnd.of (fun t k => XS.dup X154.here hx rfl (hb hby at_67) rfl rfl k) ?_
    show OEnd p e below _ (T154.setTop (mkF m 68 #[.val (.int p0), .val (.int p1), .val (.int p2), .val (.int p3), .val (.long q4), .second, .val (.int xi84), .val (.int xn85), .val (.ref b86), .val (.ref b89), .val (.ref b100), .unset, .unset, .unset] [(.ref b154), (.ref b154)]))
    refine OEnd.of (fun t k => XS.aload X154.here hx rfl (hb hby at_68) rfl rfl k) ?_
    show OEnd p e below _ (T154.setTop (mkF m 70 #[.val (.int p0), .val (.int p1), .val (.int p2), .val (.int p3), .val (.long q4), .second, .val (.int xi84), .val (.int xn85), .val (.ref b86), .val (.ref b89), .val (.ref b100), .unset, .unset, .unset] [(.ref b86), (.ref b154), (.ref b154)]))
    have K162 : Keep h86 h154 [] := ((((K101.ext E100).wr W106 (Or.inr (Nat.le_trans K101.1 (Nat.le_of_eq g100.symm)))).wr W112 (Or.inr (Nat.le_trans K101.1 (Nat.le_of_eq g100.symm)))).ext E154)
    have K163 : Keep h112 h154 [] := ((Keep.refl h112 []).ext E154)
    have O164 : Ext Z.heap h154 := own_extKeep O156 K163 all0
    obtain ⟨_, vq161, ⟨T161, L161, k161, n161⟩, -, X161, S161, G161, ⟨Lc161, hQ161, l161, y161, z161, C161⟩, st161⟩ := X154.specialBackS hx (y := (⟨"java/lang/String", "<init>", "([C)V"⟩ : MethodName)) rfl hown (mvT hZ (hw _ (List.mem_of_getElem? (i := 5) rfl))) (mvT hZ (hw _ (List.mem_of_getElem? (i := 6) rfl))) (mvT hZ (hw _ (List.mem_of_getElem? (i := 7) rfl))) (by decide) (backOfSH (W := 1) (rmS1e l Z a0 hw zc k_WORD k_QUOTED_NAME k_STRING k_NUMBER k_SYMBOL k_END S_CS hzc S_WORD S_QUOTED_NAME S_STRING S_NUMBER S_SYMBOL S_END ne_STRING_WORD ne_STRING_QUOTED_NAME ne_NUMBER_WORD ne_NUMBER_QUOTED_NAME ne_SYMBOL_WORD ne_SYMBOL_QUOTED_NAME ne_END_WORD ne_END_QUOTED_NAME hEL [] b154 b86 k86 h154 O164 A154 F158 F157 f154 (V86.keep K162 nin0)) hZ (hw _ (List.mem_of_getElem? (i := 7) rfl)) (hw _ (List.mem_of_getElem? (i := 4) rfl)) (by decide) (by decide) hEL HR160.1) (g := (mkF m 70 #[.val (.int p0), .val (.int p1), .val (.int p2), .val (.int p3), .val (.long q4), .second, .val (.int xi84), .val (.int xn85), .val (.ref b86), .val (.ref b89), .val (.ref b100), .unset, .unset, .unset] [(.ref b86), (.ref b154), (.ref b154)])) rfl (by rw [hml]; rfl) (Steps.refl _) (a := b154) (argsL := [(.ref b86)]) (rest := [(.ref b154)]) (lenOf pd_285bC29V rfl) rfl (by show 2 * 0 + _ ≤ _; exact Nat.le_of_eq rfl) (hb hby at_70) (fun _ _ => ⟨rfl, e154, (by decide : 4 + 4 ≤ _), (by decide : 7 + 8 ≤ _)⟩)
    have K165 : Keep h0 h95 [] := ((K90.ext E89).wr W95 (Or.inr (Nat.le_trans K90.1 (Nat.le_of_eq g89.symm))))
    have K166 : Keep h0 h154 [] := ((((((K90.ext E89).wr W95 (Or.inr (Nat.le_trans K90.1 (Nat.le_of_eq g89.symm)))).ext E100).wr W106 (Or.inr (Nat.le_trans K165.1 (Nat.le_of_eq g100.symm)))).wr W112 (Or.inr (Nat.le_trans K165.1 (Nat.le_of_eq g100.symm)))).ext E154)
    dsimp only [Pt.U, Pt.locs, Pt.cells, Pt.slots] at X161 l161 y161 z161 st161 hQ161 S161 G161 C161
    subst l161 y161 z161
    obtain ⟨h161, e161⟩ : ∃ z, T161.heap = z := ⟨_, rfl⟩
    rw [e161] at hQ161 C161
    obtain ⟨rfl, Nq161, Kq161, S_167⟩ := hQ161
    have N168 := Fr.app N114 Nq161
    obtain ⟨X161, S161, hZ161, hown161⟩ := rebS hS0 (by rw [e154]; exact (Nat.le_trans hk0 K166.1)) X161 S161 G161 hZ hown
    have hk161 : T161.heap.size ≤ h161.size := by rw [e161]; exact Nat.le_refl _
    have CR169 : CHr Z EL s.vm h154 T161.vm h161 := C161
    have HR170 : CHr Z EL s.vm h0 T161.vm h161 := HR160.trans CR169
    refine OEnd.of (fun t k => st161.trans k) ?_
    show OEnd p e below _ (T161.setTop (mkF m 73 #[.val (.int p0), .val (.int p1), .val (.int p2), .val (.int p3), .val (.long q4), .second, .val (.int xi84), .val (.int xn85), .val (.ref b86), .val (.ref b89), .val (.ref b100), .unset, .unset, .unset] [(.ref b154)]))
    refine OEnd.of (fun t k => XS.astore X161.here hx rfl (hb hby at_73) rfl rfl (l' := #[.val (.int p0), .val (.int p1), .val (.int p2), .val (.int p3), .val (.long q4), .second, .val (.int xi84), .val (.int xn85), .val (.ref b86), .val (.ref b89), .val (.ref b100), .val (.ref b154), .unset, .unset]) rfl k) ?_
    show OEnd p e below _ (T161.setTop (mkF m 75 #[.val (.int p0), .val (.int p1), .val (.int p2), .val (.int p3), .val (.long q4), .second, .val (.int xi84), .val (.int xn85), .val (.ref b86), .val (.ref b89), .val (.ref b100), .val (.ref b154), .unset, .unset] []))
    refine OEnd.of (fun t k => XS.goto X161.here hx rfl (pc0 := 75) (pc' := 109) rfl (hb hby at_75) (by decide) (by decide) k) ?_
    show OEnd p e below _ (T161.setTop (mkF m 109 #[.val (.int p0), .val (.int p1), .val (.int p2), .val (.int p3), .val (.long q4), .second, .val (.int xi84), .val (.int xn85), .val (.ref b86), .val (.ref b89), .val (.ref b100), .val (.ref b154), .unset, .unset] []))
    have K171 : Keep h112 h161 [] := (K163.trans Kq161 (allS (Or.inr (Nat.le_of_eq g154.symm)) all0))
    exact J117 _ T161 h161 _ b154 (X161.mono (by decide) (by decide)) e161 N168 K171 ⟨_, S161, hk161⟩ hZ161 hown161 HR170
  · refine OEnd.of (fun t k => XS.ifYes X112.here hx rfl (pc0 := 61) (pc' := 78) rfl (hb hby at_61) rfl ((if0 _ _).trans (feq hc153).2) (by decide) (by decide) k) ?_
    show OEnd p e below _ (T112.setTop (mkF m 78 #[.val (.int p0), .val (.int p1), .val (.int p2), .val (.int p3), .val (.long q4), .second, .val (.int xi84), .val (.int xn85), .val (.ref b86), .val (.ref b89), .val (.ref b100), .unset, .unset, .unset] []))
    refine OEnd.of (fun t k => XS.iload X112.here hx rfl (hb hby at_78) rfl k) ?_
    show OEnd p e below _ (T112.setTop (mkF m 80 #[.val (.int p0), .val (.int p1), .val (.int p2), .val (.int p3), .val (.long q4), .second, .val (.int xi84), .val (.int xn85), .val (.ref b86), .val (.ref b89), .val (.ref b100), .unset, .unset, .unset] [(.int xn85)]))
    refine OEnd.of (fun t k => XS.iconst X112.here hx rfl (hb hby at_80) k) ?_
    show OEnd p e below _ (T112.setTop (mkF m 81 #[.val (.int p0), .val (.int p1), .val (.int p2), .val (.int p3), .val (.long q4), .second, .val (.int xi84), .val (.int xn85), .val (.ref b86), .val (.ref b89), .val (.ref b100), .unset, .unset, .unset] [(.int (1 : Int32)), (.int xn85)]))
    by_cases hc172 : xn85 = (1 : Int32)
    · refine OEnd.of (fun t k => XS.icmpNo X112.here hx rfl (hb hby at_81) rfl (teq hc172).2 k) ?_
      show OEnd p e below _ (T112.setTop (mkF m 84 #[.val (.int p0), .val (.int p1), .val (.int p2), .val (.int p3), .val (.long q4), .second, .val (.int xi84), .val (.int xn85), .val (.ref b86), .val (.ref b89), .val (.ref b100), .unset, .unset, .unset] []))
      have K174 : Keep h95 h112 [] := ((((Keep.refl h95 []).ext E100).wr W106 (Or.inr (Nat.le_of_eq g100.symm))).wr W112 (Or.inr (Nat.le_of_eq g100.symm)))
      have O175 : Ext Z.heap h112 := own_extKeep O102 K174 all0
      obtain ⟨T173, h173, X173, e173, E173, A173, D173, -, st173⟩ := newO X112 hx hZ hown (hw _ (List.mem_of_getElem? (i := 2) rfl)) (hw _ (List.mem_of_getElem? (i := 3) rfl)) (hw _ (List.mem_of_getElem? (i := 4) rfl)) e112 (g := (mkF m 84 #[.val (.int p0), .val (.int p1), .val (.int p2), .val (.int p3), .val (.long q4), .second, .val (.int xi84), .val (.int xn85), .val (.ref b86), .val (.ref b89), .val (.ref b100), .unset, .unset, .unset] [])) rfl (hb hby at_84) (by decide) (by decide)
      obtain ⟨b173, g173⟩ : ∃ z, z = h112.size := ⟨_, rfl⟩
      rw [← g173] at A173 D173 st173
      refine OEnd.of st173 ?_
      have f173 : Z.heap.size ≤ b173 := Nat.le_trans O175.1 (Nat.le_of_eq g173.symm)
      have F176 : Fld Z h173 b173 "java/lang/String" "coder" "B" (.int (0 : Int32)) := D173 (Or.inr (hw _ (List.mem_of_getElem? (i := 28) rfl))) (ty := .byte) (by decide)
      have F177 : Fld Z h173 b173 "java/lang/String" "value" "[B" .null := D173 (Or.inr (hw _ (List.mem_of_getElem? (i := 30) rfl))) (ty := (.array .byte)) (by decide)
      have CR178 : CHr Z EL s.vm h112 s.vm h173 := CHr.ext E173 HR116.1
      have HR179 : CHr Z EL s.vm h0 s.vm h173 := HR116.trans CR178
      show OEnd p e below _ (T173.setTop (mkF m 87 #[.val (.int p0), .val (.int p1), .val (.int p2), .val (.int p3), .val (.long q4), .second, .val (.int xi84), .val (.int xn85), .val (.ref b86), .val (.ref b89), .val (.ref b100), .unset, .unset, .unset] [(.ref b173)]))
      refine OEnd.of (fun t k => XS.dup X173.here hx rfl (hb hby at_87) rfl rfl k) ?_
      show OEnd p e below _ (T173.setTop (mkF m 88 #[.val (.int p0), .val (.int p1), .val (.int p2), .val (.int p3), .val (.long q4), .second, .val (.int xi84), .val (.int xn85), .val (.ref b86), .val (.ref b89), .val (.ref b100), .unset, .unset, .unset] [(.ref b173), (.ref b173)]))
      refine OEnd.of (fun t k => XS.aload X173.here hx rfl (hb hby at_88) rfl rfl k) ?_
      show OEnd p e below _ (T173.setTop (mkF m 90 #[.val (.int p0), .val (.int p1), .val (.int p2), .val (.int p3), .val (.long q4), .second, .val (.int xi84), .val (.int xn85), .val (.ref b86), .val (.ref b89), .val (.ref b100), .unset, .unset, .unset] [(.ref b89), (.ref b173), (.ref b173)]))
      have K180 : Keep h95 h173 [] := (K174.ext E173)
      have K181 : Keep h112 h173 [] := ((Keep.refl h112 []).ext E173)
      have O182 : Ext Z.heap h173 := own_extKeep O175 K181 all0
      obtain ⟨_, _, ⟨T183, L183, k183, n183⟩, -, X183, ⟨Lc183, hQ183, l183, y183, z183⟩, st183⟩ := X173.specialBack hx (y := (⟨"java/lang/String", "<init>", "([C)V"⟩ : MethodName)) rfl hown (mvT hZ (hw _ (List.mem_of_getElem? (i := 5) rfl))) (mvT hZ (hw _ (List.mem_of_getElem? (i := 6) rfl))) (mvT hZ (hw _ (List.mem_of_getElem? (i := 7) rfl))) (by decide) (StrChars.Road.backV (W := 1) hZ (fun d hd => hw d (own_strWords d hd)) (kI := 4) (hw _ (List.mem_of_getElem? (i := 3) rfl)) (cs := [ch94]) (bs := [ch94].map (fun c => c.toInt8.toInt32)) (n := 1) (n0 := Z.heap.size) f173 O182.1 A173 F177 F176 (V96.keep K180 nin0) (Sta.ext O182 S_CS) hzc rfl rfl (by decide) (by decide) (List.forall_mem_cons.mpr ⟨hch_ch94, (fun _ q => nomatch q)⟩) rfl (by decide) (by decide)) (g := (mkF m 90 #[.val (.int p0), .val (.int p1), .val (.int p2), .val (.int p3), .val (.long q4), .second, .val (.int xi84), .val (.int xn85), .val (.ref b86), .val (.ref b89), .val (.ref b100), .unset, .unset, .unset] [(.ref b89), (.ref b173), (.ref b173)])) rfl (by rw [hml]; rfl) (Steps.refl _) (a := b173) (argsL := [(.ref b89)]) (rest := [(.ref b173)]) (lenOf pd_285bC29V rfl) rfl (by show 2 * 0 + _ ≤ _; exact Nat.le_of_eq rfl) (hb hby at_90) (fun _ _ => ⟨rfl, e173, (by decide : 4 + 1 ≤ _), (by decide : 7 + 1 ≤ _)⟩)
      dsimp only [Pt.U, Pt.locs, Pt.cells, Pt.slots] at X183 l183 y183 z183 st183 hQ183
      subst l183 y183 z183
      obtain ⟨h183, e183⟩ : ∃ z, T183.heap = z := ⟨_, rfl⟩
      rw [e183] at hQ183
      have Sf184 : Safe Z EL s.vm h173 b173 := own_safeNull hZ.alike A173 F177
      have lt185 : b173 < h173.size := (A173).lt
      obtain ⟨rfl, Nq183, Kq183, Ex183, Cd183, t183, kb183, f183, hh183, nx183, Vl183, Ar183⟩ := hQ183
      have N186 := Fr.app N114 Nq183
      have CR187 : CHr Z EL s.vm h173 s.vm h183 := CHr.keep Kq183 (allS Sf184 all0) HR179.1
      have HR188 : CHr Z EL s.vm h0 s.vm h183 := HR179.trans CR187
      have Sf189 : Safe Z EL s.vm h183 b173 := CR187.safe lt185 Sf184
      refine OEnd.of (fun t k => st183.trans k) ?_
      show OEnd p e below _ (T183.setTop (mkF m 93 #[.val (.int p0), .val (.int p1), .val (.int p2), .val (.int p3), .val (.long q4), .second, .val (.int xi84), .val (.int xn85), .val (.ref b86), .val (.ref b89), .val (.ref b100), .unset, .unset, .unset] [(.ref b173)]))
      have St190 : IsStr Z h183 b173 [ch94] := ⟨Ex183, Cd183, ⟨t183, kb183, Vl183, Ar183⟩, (List.forall_mem_cons.mpr ⟨hch_ch94, (fun _ q => nomatch q)⟩), Nat.le_of_ble_eq_true rfl⟩
      refine OEnd.of (fun t k => XS.astore X183.here hx rfl (hb hby at_93) rfl rfl (l' := #[.val (.int p0), .val (.int p1), .val (.int p2), .val (.int p3), .val (.long q4), .second, .val (.int xi84), .val (.int xn85), .val (.ref b86), .val (.ref b89), .val (.ref b100), .val (.ref b173), .unset, .unset]) rfl k) ?_
      show OEnd p e below _ (T183.setTop (mkF m 95 #[.val (.int p0), .val (.int p1), .val (.int p2), .val (.int p3), .val (.long q4), .second, .val (.int xi84), .val (.int xn85), .val (.ref b86), .val (.ref b89), .val (.ref b100), .val (.ref b173), .unset, .unset] []))
      refine OEnd.of (fun t k => XS.goto X183.here hx rfl (pc0 := 95) (pc' := 109) rfl (hb hby at_95) (by decide) (by decide) k) ?_
      show OEnd p e below _ (T183.setTop (mkF m 109 #[.val (.int p0), .val (.int p1), .val (.int p2), .val (.int p3), .val (.long q4), .second, .val (.int xi84), .val (.int xn85), .val (.ref b86), .val (.ref b89), .val (.ref b100), .val (.ref b173), .unset, .unset] []))
      have K191 : Keep h112 h183 [] := (K181.trans Kq183 (allS (Or.inr (Nat.le_of_eq g173.symm)) all0))
      have K192 : Keep h0 h95 [] := ((K90.ext E89).wr W95 (Or.inr (Nat.le_trans K90.1 (Nat.le_of_eq g89.symm))))
      have K193 : Keep h0 h112 [] := (((K192.ext E100).wr W106 (Or.inr (Nat.le_trans K192.1 (Nat.le_of_eq g100.symm)))).wr W112 (Or.inr (Nat.le_trans K192.1 (Nat.le_of_eq g100.symm))))
      have K194 : Keep h0 h183 [] := (((((((K90.ext E89).wr W95 (Or.inr (Nat.le_trans K90.1 (Nat.le_of_eq g89.symm)))).ext E100).wr W106 (Or.inr (Nat.le_trans K192.1 (Nat.le_of_eq g100.symm)))).wr W112 (Or.inr (Nat.le_trans K192.1 (Nat.le_of_eq g100.symm)))).ext E173).trans Kq183 (allS (Or.inr (Nat.le_trans K193.1 (Nat.le_of_eq g173.symm))) all0))
      exact J117 _ T183 h183 _ b173 (X183.mono (by decide) (by decide)) e183 N186 K191 ⟨_, hS0, (Nat.le_trans hk0 K194.1)⟩ hZ hown HR188
    · refine OEnd.of (fun t k => XS.icmpYes X112.here hx rfl (pc0 := 81) (pc' := 98) rfl (hb hby at_81) rfl (feq hc172).2 (by decide) (by decide) k) ?_
      show OEnd p e below _ (T112.setTop (mkF m 98 #[.val (.int p0), .val (.int p1), .val (.int p2), .val (.int p3), .val (.long q4), .second, .val (.int xi84), .val (.int xn85), .val (.ref b86), .val (.ref b89), .val (.ref b100), .unset, .unset, .unset] []))
      have K196 : Keep h95 h112 [] := ((((Keep.refl h95 []).ext E100).wr W106 (Or.inr (Nat.le_of_eq g100.symm))).wr W112 (Or.inr (Nat.le_of_eq g100.symm)))
      have O197 : Ext Z.heap h112 := own_extKeep O102 K196 all0
      obtain ⟨T195, h195, X195, e195, E195, A195, D195, -, st195⟩ := newO X112 hx hZ hown (hw _ (List.mem_of_getElem? (i := 2) rfl)) (hw _ (List.mem_of_getElem? (i := 3) rfl)) (hw _ (List.mem_of_getElem? (i := 4) rfl)) e112 (g := (mkF m 98 #[.val (.int p0), .val (.int p1), .val (.int p2), .val (.int p3), .val (.long q4), .second, .val (.int xi84), .val (.int xn85), .val (.ref b86), .val (.ref b89), .val (.ref b100), .unset, .unset, .unset] [])) rfl (hb hby at_98) (by decide) (by decide)
      obtain ⟨b195, g195⟩ : ∃ z, z = h112.size := ⟨_, rfl⟩
      rw [← g195] at A195 D195 st195
      refine OEnd.of st195 ?_
      have f195 : Z.heap.size ≤ b195 := Nat.le_trans O197.1 (Nat.le_of_eq g195.symm)
      have F198 : Fld Z h195 b195 "java/lang/String" "coder" "B" (.int (0 : Int32)) := D195 (Or.inr (hw _ (List.mem_of_getElem? (i := 28) rfl))) (ty := .byte) (by decide)
      have F199 : Fld Z h195 b195 "java/lang/String" "value" "[B" .null := D195 (Or.inr (hw _ (List.mem_of_getElem? (i := 30) rfl))) (ty := (.array .byte)) (by decide)
      have CR200 : CHr Z EL s.vm h112 s.vm h195 := CHr.ext E195 HR116.1
      have HR201 : CHr Z EL s.vm h0 s.vm h195 := HR116.trans CR200
      show OEnd p e below _ (T195.setTop (mkF m 101 #[.val (.int p0), .val (.int p1), .val (.int p2), .val (.int p3), .val (.long q4), .second, .val (.int xi84), .val (.int xn85), .val (.ref b86), .val (.ref b89), .val (.ref b100), .unset, .unset, .unset] [(.ref b195)]))
      refine OEnd.of (fun t k => XS.dup X195.here hx rfl (hb hby at_101) rfl rfl k) ?_
      show OEnd p e below _ (T195.setTop (mkF m 102 #[.val (.int p0), .val (.int p1), .val (.int p2), .val (.int p3), .val (.long q4), .second, .val (.int xi84), .val (.int xn85), .val (.ref b86), .val (.ref b89), .val (.ref b100), .unset, .unset, .unset] [(.ref b195), (.ref b195)]))
      refine OEnd.of (fun t k => XS.aload X195.here hx rfl (hb hby at_102) rfl rfl k) ?_
      show OEnd p e below _ (T195.setTop (mkF m 104 #[.val (.int p0), .val (.int p1), .val (.int p2), .val (.int p3), .val (.long q4), .second, .val (.int xi84), .val (.int xn85), .val (.ref b86), .val (.ref b89), .val (.ref b100), .unset, .unset, .unset] [(.ref b100), (.ref b195), (.ref b195)]))
      have K202 : Keep h112 h195 [] := ((Keep.refl h112 []).ext E195)
      have O203 : Ext Z.heap h195 := own_extKeep O197 K202 all0
      obtain ⟨_, _, ⟨T204, L204, k204, n204⟩, -, X204, ⟨Lc204, hQ204, l204, y204, z204⟩, st204⟩ := X195.specialBack hx (y := (⟨"java/lang/String", "<init>", "([C)V"⟩ : MethodName)) rfl hown (mvT hZ (hw _ (List.mem_of_getElem? (i := 5) rfl))) (mvT hZ (hw _ (List.mem_of_getElem? (i := 6) rfl))) (mvT hZ (hw _ (List.mem_of_getElem? (i := 7) rfl))) (by decide) (StrChars.Road.backV (W := 1) hZ (fun d hd => hw d (own_strWords d hd)) (kI := 4) (hw _ (List.mem_of_getElem? (i := 3) rfl)) (cs := [ch105, ch111]) (bs := [ch105, ch111].map (fun c => c.toInt8.toInt32)) (n := 2) (n0 := Z.heap.size) f195 O203.1 A195 F199 F198 (V113.keep K202 nin0) (Sta.ext O203 S_CS) hzc rfl rfl (by decide) (by decide) (List.forall_mem_cons.mpr ⟨hch_ch105, (List.forall_mem_cons.mpr ⟨hch_ch111, (fun _ q => nomatch q)⟩)⟩) rfl (by decide) (by decide)) (g := (mkF m 104 #[.val (.int p0), .val (.int p1), .val (.int p2), .val (.int p3), .val (.long q4), .second, .val (.int xi84), .val (.int xn85), .val (.ref b86), .val (.ref b89), .val (.ref b100), .unset, .unset, .unset] [(.ref b100), (.ref b195), (.ref b195)])) rfl (by rw [hml]; rfl) (Steps.refl _) (a := b195) (argsL := [(.ref b100)]) (rest := [(.ref b195)]) (lenOf pd_285bC29V rfl) rfl (by show 2 * 0 + _ ≤ _; exact Nat.le_of_eq rfl) (hb hby at_104) (fun _ _ => ⟨rfl, e195, (by decide : 4 + 1 ≤ _), (by decide : 7 + 2 ≤ _)⟩)
      dsimp only [Pt.U, Pt.locs, Pt.cells, Pt.slots] at X204 l204 y204 z204 st204 hQ204
      subst l204 y204 z204
      obtain ⟨h204, e204⟩ : ∃ z, T204.heap = z := ⟨_, rfl⟩
      rw [e204] at hQ204
      have Sf205 : Safe Z EL s.vm h195 b195 := own_safeNull hZ.alike A195 F199
      have lt206 : b195 < h195.size := (A195).lt
      obtain ⟨rfl, Nq204, Kq204, Ex204, Cd204, t204, kb204, f204, hh204, nx204, Vl204, Ar204⟩ := hQ204
      have N207 := Fr.app N114 Nq204
      have CR208 : CHr Z EL s.vm h195 s.vm h204 := CHr.keep Kq204 (allS Sf205 all0) HR201.1
      have HR209 : CHr Z EL s.vm h0 s.vm h204 := HR201.trans CR208
      have Sf210 : Safe Z EL s.vm h204 b195 := CR208.safe lt206 Sf205
      refine OEnd.of (fun t k => st204.trans k) ?_
      show OEnd p e below _ (T204.setTop (mkF m 107 #[.val (.int p0), .val (.int p1), .val (.int p2), .val (.int p3), .val (.long q4), .second, .val (.int xi84), .val (.int xn85), .val (.ref b86), .val (.ref b89), .val (.ref b100), .unset, .unset, .unset] [(.ref b195)]))
      have St211 : IsStr Z h204 b195 [ch105, ch111] := ⟨Ex204, Cd204, ⟨t204, kb204, Vl204, Ar204⟩, (List.forall_mem_cons.mpr ⟨hch_ch105, (List.forall_mem_cons.mpr ⟨hch_ch111, (fun _ q => nomatch q)⟩)⟩), Nat.le_of_ble_eq_true rfl⟩
      refine OEnd.of (fun t k => XS.astore X204.here hx rfl (hb hby at_107) rfl rfl (l' := #[.val (.int p0), .val (.int p1), .val (.int p2), .val (.int p3), .val (.long q4), .second, .val (.int xi84), .val (.int xn85), .val (.ref b86), .val (.ref b89), .val (.ref b100), .val (.ref b195), .unset, .unset]) rfl k) ?_
      show OEnd p e below _ (T204.setTop (mkF m 109 #[.val (.int p0), .val (.int p1), .val (.int p2), .val (.int p3), .val (.long q4), .second, .val (.int xi84), .val (.int xn85), .val (.ref b86), .val (.ref b89), .val (.ref b100), .val (.ref b195), .unset, .unset] []))
      have K212 : Keep h112 h204 [] := (K202.trans Kq204 (allS (Or.inr (Nat.le_of_eq g195.symm)) all0))
      have K213 : Keep h0 h95 [] := ((K90.ext E89).wr W95 (Or.inr (Nat.le_trans K90.1 (Nat.le_of_eq g89.symm))))
      have K214 : Keep h0 h112 [] := (((K213.ext E100).wr W106 (Or.inr (Nat.le_trans K213.1 (Nat.le_of_eq g100.symm)))).wr W112 (Or.inr (Nat.le_trans K213.1 (Nat.le_of_eq g100.symm))))
      have K215 : Keep h0 h204 [] := (((((((K90.ext E89).wr W95 (Or.inr (Nat.le_trans K90.1 (Nat.le_of_eq g89.symm)))).ext E100).wr W106 (Or.inr (Nat.le_trans K213.1 (Nat.le_of_eq g100.symm)))).wr W112 (Or.inr (Nat.le_trans K213.1 (Nat.le_of_eq g100.symm)))).ext E195).trans Kq204 (allS (Or.inr (Nat.le_trans K214.1 (Nat.le_of_eq g195.symm))) all0))
      exact J117 _ T204 h204 _ b195 (X204.mono (by decide) (by decide)) e204 N207 K212 ⟨_, hS0, (Nat.le_trans hk0 K215.1)⟩ hZ hown HR209
set_option maxRecDepth 65536 in
set_option maxHeartbeats 40000000 in
theorem comes_1 {Post : Tables → Env → Array Value → State → Outcome → State → Prop} (hpost : ∀ tb e args s v u, (limb_1_1.after args s (.returned v) u = true ∧ limb_1_2.after args s (.returned v) u = true ∧ True) → ReturnedEndW s (.returned v) u (Jvm.fieldLocs frame_1_writes args s ++ Jvm.arrayLocs frame_1_arrays args s ++ Jvm.staticLocs frame_1_statics s) 24 1152 → Post tb e args s (.returned v) u) :
    ArmFor flags0 classFile x code maxLocals ret World_1 tables_1 room_1 Calls_1 rest_1 Pre_1 Post := by
  intro l hfl _ _ p e ha hc hk s m args below hf hA hF happ hP
  obtain ⟨hcalls, hrest, hpre⟩ := hP
  obtain ⟨-, -, -, hnamed, -, -, -, hat⟩ := (Spec.applies_iff hf).mp happ
  obtain ⟨hg, hn⟩ := and_e (Cond.before_iff.mp (show (Jvm.Cond.and given_1 narrow_1).before args s = true from hpre))
  obtain ⟨hcnt, hg0⟩ := and_e hg
  obtain ⟨ga0, hg1⟩ := and_e hg0
  obtain ⟨ga1, hg2⟩ := and_e hg1
  obtain ⟨ga2, hg3⟩ := and_e hg2
  obtain ⟨ga3, hg4⟩ := and_e hg3
  have ga4 := hg4
  obtain ⟨w0, w1, w2, w3, w4, rfl⟩ : ∃ w0 w1 w2 w3 w4 : Value, args = #[w0, w1, w2, w3, w4] := by
    have hs : args.size = 5 := by simpa [Cond.value, given_1] using hcnt
    obtain ⟨L⟩ := args
    match L, hs with
    | [w0, w1, w2, w3, w4], _ => exact ⟨w0, w1, w2, w3, w4, rfl⟩
  have hw := fun d (hd : d ∈ tables_1) => atoms_spec (ws := Jvm.Cond.code x code maxLocals ret :: tables_1) hat d (List.mem_cons_of_mem _ hd)
  have hfit : Fit s := fun {y c} hc i hi => by
    obtain ⟨ha, rfl⟩ := Array.getElem?_eq_some_iff.mp hc
    have q := List.all_eq_true.mp ((Array.all_eq_true_iff_forall_mem.mp hF) _ (Array.getElem_mem ha)) i (List.mem_range.mpr hi)
    simpa [Array.getElem?_eq_getElem hi] using q
  obtain ⟨hsets, hown0⟩ := atoms_of _ (rest_1_c_eq ▸ (show rest_1_c.before _ s = true from hrest))
  obtain ⟨i0, ei0⟩ := is_v ga0
  obtain rfl : w0 = (.int i0) := Option.some.inj ei0
  obtain ⟨i1, ei1⟩ := is_v ga1
  obtain rfl : w1 = (.int i1) := Option.some.inj ei1
  obtain ⟨i2, ei2⟩ := is_v ga2
  obtain rfl : w2 = (.int i2) := Option.some.inj ei2
  obtain ⟨i3, ei3⟩ := is_v ga3
  obtain rfl : w3 = (.int i3) := Option.some.inj ei3
  obtain ⟨i4, ei4⟩ := isL_v ga4
  obtain rfl : w4 = (.long i4) := Option.some.inj ei4
  have n3 := not_v (Cond.before_iff.mp (hsets _ (List.mem_of_getElem? (i := 2) rfl)))
  obtain ⟨zc, ezc⟩ := is_v (Cond.before_iff.mp (hsets _ (List.mem_of_getElem? (i := 1) rfl)))
  have S_CS : Sta s s.heap "java/lang/String" "COMPACT_STRINGS" "Z" (.int zc) := Sta.start ezc (Or.inl (hsets _ (List.mem_of_getElem? (i := 0) rfl)))
  have hzc : ¬ zc = (0 : Int32) := gotF (Cond.eq_ints ezc (Term.int_eval (0))) n3
  obtain ⟨na0, nb0⟩ := and_e hn
  obtain ⟨na1, nb1⟩ := and_e nb0
  obtain ⟨na2, nb2⟩ := and_e nb1
  obtain ⟨na3, nb3⟩ := and_e nb2
  obtain ⟨na4, nb4⟩ := and_e nb3
  obtain ⟨na5, nb5⟩ := and_e nb4
  obtain ⟨na6, nb6⟩ := and_e nb5
  obtain ⟨na7, nb7⟩ := and_e nb6
  obtain ⟨na8, nb8⟩ := and_e nb7
  obtain ⟨na9, nb9⟩ := and_e nb8
  obtain ⟨na10, nb10⟩ := and_e nb9
  obtain ⟨k_WORD, e_k_WORD⟩ := exa_v na0
  have S_WORD : Sta s s.heap "com/example/orderly_schema/orderlyschema/input/SqlTokenizer$Kind" "WORD" "Lcom/example/orderly_schema/orderlyschema/input/SqlTokenizer$Kind;" (.ref k_WORD) := Sta.start e_k_WORD (Or.inr ⟨(hw _ (List.mem_of_getElem? (i := 39) rfl)), (hw _ (List.mem_of_getElem? (i := 40) rfl))⟩)
  obtain ⟨k_QUOTED_NAME, e_k_QUOTED_NAME⟩ := exa_v na4
  have S_QUOTED_NAME : Sta s s.heap "com/example/orderly_schema/orderlyschema/input/SqlTokenizer$Kind" "QUOTED_NAME" "Lcom/example/orderly_schema/orderlyschema/input/SqlTokenizer$Kind;" (.ref k_QUOTED_NAME) := Sta.start e_k_QUOTED_NAME (Or.inr ⟨(hw _ (List.mem_of_getElem? (i := 39) rfl)), (hw _ (List.mem_of_getElem? (i := 65) rfl))⟩)
  obtain ⟨k_STRING, e_k_STRING⟩ := exa_v na8
  have S_STRING : Sta s s.heap "com/example/orderly_schema/orderlyschema/input/SqlTokenizer$Kind" "STRING" "Lcom/example/orderly_schema/orderlyschema/input/SqlTokenizer$Kind;" (.ref k_STRING) := Sta.start e_k_STRING (Or.inr ⟨(hw _ (List.mem_of_getElem? (i := 39) rfl)), (hw _ (List.mem_of_getElem? (i := 72) rfl))⟩)
  obtain ⟨k_NUMBER, e_k_NUMBER⟩ := exa_v na10
  have S_NUMBER : Sta s s.heap "com/example/orderly_schema/orderlyschema/input/SqlTokenizer$Kind" "NUMBER" "Lcom/example/orderly_schema/orderlyschema/input/SqlTokenizer$Kind;" (.ref k_NUMBER) := Sta.start e_k_NUMBER (Or.inr ⟨(hw _ (List.mem_of_getElem? (i := 39) rfl)), (hw _ (List.mem_of_getElem? (i := 75) rfl))⟩)
  obtain ⟨k_SYMBOL, e_k_SYMBOL⟩ := exa_v na1
  have S_SYMBOL : Sta s s.heap "com/example/orderly_schema/orderlyschema/input/SqlTokenizer$Kind" "SYMBOL" "Lcom/example/orderly_schema/orderlyschema/input/SqlTokenizer$Kind;" (.ref k_SYMBOL) := Sta.start e_k_SYMBOL (Or.inr ⟨(hw _ (List.mem_of_getElem? (i := 39) rfl)), (hw _ (List.mem_of_getElem? (i := 63) rfl))⟩)
  obtain ⟨k_END, e_k_END⟩ := exa_v na6
  have S_END : Sta s s.heap "com/example/orderly_schema/orderlyschema/input/SqlTokenizer$Kind" "END" "Lcom/example/orderly_schema/orderlyschema/input/SqlTokenizer$Kind;" (.ref k_END) := Sta.start e_k_END (Or.inr ⟨(hw _ (List.mem_of_getElem? (i := 39) rfl)), (hw _ (List.mem_of_getElem? (i := 70) rfl))⟩)
  have od_STRING := own_ordOf e_k_STRING na9
  have od_WORD := own_ordOf e_k_WORD na3
  have ne_STRING_WORD : k_STRING ≠ k_WORD := own_ordNe od_STRING od_WORD (by decide)
  have od_QUOTED_NAME := own_ordOf e_k_QUOTED_NAME na5
  have ne_STRING_QUOTED_NAME : k_STRING ≠ k_QUOTED_NAME := own_ordNe od_STRING od_QUOTED_NAME (by decide)
  have od_NUMBER := own_ordOf e_k_NUMBER nb10
  have ne_NUMBER_WORD : k_NUMBER ≠ k_WORD := own_ordNe od_NUMBER od_WORD (by decide)
  have ne_NUMBER_QUOTED_NAME : k_NUMBER ≠ k_QUOTED_NAME := own_ordNe od_NUMBER od_QUOTED_NAME (by decide)
  have od_SYMBOL := own_ordOf e_k_SYMBOL na2
  have ne_SYMBOL_WORD : k_SYMBOL ≠ k_WORD := own_ordNe od_SYMBOL od_WORD (by decide)
  have ne_SYMBOL_QUOTED_NAME : k_SYMBOL ≠ k_QUOTED_NAME := own_ordNe od_SYMBOL od_QUOTED_NAME (by decide)
  have od_END := own_ordOf e_k_END na7
  have ne_END_WORD : k_END ≠ k_WORD := own_ordNe od_END od_WORD (by decide)
  have ne_END_QUOTED_NAME : k_END ≠ k_QUOTED_NAME := own_ordNe od_END od_QUOTED_NAME (by decide)
  have hEL : EW s _ EL := (EW.cons (hw _ (List.mem_of_getElem? (i := 66) rfl)) (by decide) EW.nil)
  have hCH : CHv s EL s.vm s.heap := CHv.start hEL (fun p hp => hcalls.1 p hp) (hsets _ (List.mem_of_getElem? (i := 2) rfl)) (hw _ (List.mem_of_getElem? (i := 20) rfl)) (hw _ (List.mem_of_getElem? (i := 3) rfl))
  obtain ⟨n, o, h1, h2, h3, _, L, rfl, ⟨rfl, N, -⟩, -, hq⟩ := rm0 l s _ hw zc k_WORD k_QUOTED_NAME k_STRING k_NUMBER k_SYMBOL k_END S_CS hzc S_WORD S_QUOTED_NAME S_STRING S_NUMBER S_SYMBOL S_END ne_STRING_WORD ne_STRING_QUOTED_NAME ne_NUMBER_WORD ne_NUMBER_QUOTED_NAME ne_SYMBOL_WORD ne_SYMBOL_QUOTED_NAME ne_END_WORD ne_END_QUOTED_NAME hEL tables_1 i0 i1 i2 i3 i4  s.heap ⟨Nat.le_refl _, fun _ _ q => q⟩  p e ha hc hk s m _ below hf ((Spec.applies_iff_loose hf).mp happ).1 ⟨rfl, State.Warmed39.refl s, rfl, hCH⟩ trivial
  refine ⟨n, _, h1, h2, h3, hpost _ _ _ _ _ _ ⟨Cond.after_iff.mpr rfl, Cond.after_iff.mpr (eq_i res_at (Term.int_eval (1)) rfl), trivial⟩ ⟨hq.1, hq.2.1, hq.2.2.1, (hq.2.2.2.sift fun y hy => Or.inr (N y hy)).mono (by decide) (by decide)⟩⟩
theorem main_1_1 : Claimed_1_1 := comes_1 fun _ _ _ _ _ _ h hF => ⟨h.1, hF⟩
theorem main_1_2 : Claimed_1_2 := comes_1 fun _ _ _ _ _ _ h hF => ⟨h.2.1, hF⟩
end Jvm.Pilot.@@N@@
namespace Jvm.Pilot.@@N@@
open Jvm Jvm.ClassFile Sem Op Lib Jvm.Free Jvm.Stand Jvm.Pilot.@@N@@.Jvm.D
/-! MADE BY PROGRAM (witnessworld.py) out of the Statement's table words and the real class files: 23 classes; the members and pool entries that the words name. The judged class is class 1, her method 2. -/
namespace start1
open Jvm.ClassFile
def u (s : String) : CpInfo := .utf8 (stringToUtf16 s)
/-- a pool by its gaps: so many unusable entries, then the entry; so many at the end -/
def gap : Nat → List CpInfo → List CpInfo
  | 0, r => r
  | n + 1, r => .unusable :: gap n r
def poolList (es : List (Nat × CpInfo)) (last : Nat) : List CpInfo := es.foldr (fun e r => gap e.1 (e.2 :: r)) (gap last [])
def pool (es : List (Nat × CpInfo)) (last : Nat) : Array CpInfo := ⟨poolList es last⟩
def fileOf (pool : Array CpInfo) (this : Nat) (attrs : Array Attribute := #[]) (ms : Array MethodInfo := #[]) (fl : Nat := 33) (sup : Nat := 0) (ifs : Array Nat := #[]) (fds : Array FieldInfo := #[]) : ClassFile where
  minorVersion := 0
  majorVersion := 65
  constantPool := pool
  accessFlags := fl
  thisClass := this
  superClass := sup
  interfaces := ifs
  fields := fds
  methods := ms
  attributes := attrs
def plain (name : String) (sup : Option ClassId) : Class where
  name := name
  kind := .ordinary
  loader := none
  accessFlags := 33
  super := sup
  interfaces := #[]
  cf := none
  fields := #[]
  methods := #[]
  instanceTypes := #[]
  staticTypes := #[]
  resolved := #[]
  callSites := []
  init := .initialized
  statics := none
  mirror := none

def pool0 : Array CpInfo := pool [(5, u "<init>"), (0, u "()V"), (1, .class_ 10), (1, u "java/lang/Object")] 113

def k0c0 : Code := { maxStack := 0, maxLocals := 1, code := object_method_1_code, exceptionTable := #[], attributes := #[] }
def k0m0 : Method := { name := "<init>", desc := "()V", sig := { parameters := [], returnType := none }, accessFlags := 1, code := some k0c0 }
/-- java/lang/Object -/
def k0 : Class := { plain "java/lang/Object" none with
  accessFlags := 33
  interfaces := #[]
  cf := some (fileOf pool0 8 #[] #[{ accessFlags := 1, nameIndex := 5, descriptorIndex := 6, attributes := #[] }] 33 0 #[] #[])
  fields := #[]
  methods := #[k0m0]
  instanceTypes := #[]
  staticTypes := #[]
  resolved := Array.replicate 124 none
  statics := none }

def pool1 : Array CpInfo := pool [(2, .class_ 4), (1, u "java/lang/Object"), (0, u "<init>"), (0, u "()V"), (0, .fieldref 8 9), (0, .class_ 10), (0, .nameAndType 11 12), (0, u "com/example/orderly_schema/orderlyschema/input/SqlTokenizer$Kind"), (0, u "WORD"), (0, u "Lcom/example/orderly_schema/orderlyschema/input/SqlTokenizer$Kind;"), (0, .fieldref 8 14), (0, .nameAndType 15 12), (0, u "QUOTED_NAME"), (0, .fieldref 8 17), (0, .nameAndType 18 12), (0, u "STRING"), (0, .fieldref 8 20), (0, .nameAndType 21 12), (0, u "NUMBER"), (0, .fieldref 8 23), (0, .nameAndType 24 12), (0, u "SYMBOL"), (0, .fieldref 8 26), (0, .nameAndType 27 12), (0, u "END"), (0, .integer 2147483647), (0, .class_ 30), (0, u "java/lang/String"), (0, .methodref 29 32), (0, .nameAndType 5 33), (0, u "([C)V"), (0, .class_ 35), (0, u "com/example/orderly_schema/orderlyschema/input/SqlTokenizer$Token"), (0, .methodref 37 38), (0, .class_ 39), (0, .nameAndType 40 41), (0, u "com/example/orderly_schema/orderlyschema/input/TokenIsNamePinLaw"), (0, u "kindOf"), (0, u "(I)Lcom/example/orderly_schema/orderlyschema/input/SqlTokenizer$Kind;"), (0, .methodref 34 43), (0, .nameAndType 5 44), (0, u "(Lcom/example/orderly_schema/orderlyschema/input/SqlTokenizer$Kind;Ljava/lang/String;J)V"), (0, .methodref 34 46), (0, .nameAndType 47 48), (0, u "isName"), (0, u "()Z"), (3, u "law"), (0, u "(IIIIJ)Z")] 9

def k1m0 : Method := { name := "<init>", desc := "()V", sig := { parameters := [], returnType := none }, accessFlags := 1, code := none }
def k1c1 : Code := { maxStack := 2, maxLocals := 1, code := method_2_code, exceptionTable := #[], attributes := #[] }
def k1m1 : Method := { name := "kindOf", desc := "(I)Lcom/example/orderly_schema/orderlyschema/input/SqlTokenizer$Kind;", sig := { parameters := [.int], returnType := some (.object "com/example/orderly_schema/orderlyschema/input/SqlTokenizer$Kind") }, accessFlags := 10, code := some k1c1 }
def k1c2 : Code := { maxStack := 6, maxLocals := 14, code := code, exceptionTable := #[], attributes := #[] }
def k1m2 : Method := { name := "law", desc := "(IIIIJ)Z", sig := { parameters := [.int, .int, .int, .int, .long], returnType := some .boolean }, accessFlags := 9, code := some k1c2 }
/-- com/example/orderly_schema/orderlyschema/input/TokenIsNamePinLaw -/
def k1 : Class := { plain "com/example/orderly_schema/orderlyschema/input/TokenIsNamePinLaw" (some 0) with
  accessFlags := 49
  interfaces := #[]
  cf := some (fileOf pool1 37 #[] #[{ accessFlags := 1, nameIndex := 5, descriptorIndex := 6, attributes := #[] }, { accessFlags := 10, nameIndex := 40, descriptorIndex := 41, attributes := #[] }, { accessFlags := 9, nameIndex := 52, descriptorIndex := 53, attributes := #[] }] 49 2 #[] #[])
  fields := #[]
  methods := #[k1m0, k1m1, k1m2]
  instanceTypes := #[]
  staticTypes := #[]
  resolved := Array.replicate 63 none
  statics := none }

def pool2 : Array CpInfo := pool [(1, .class_ 2), (0, u "java/io/Serializable"), (0, .class_ 4), (0, u "java/lang/Object")] 2

/-- java/io/Serializable -/
def k2 : Class := { plain "java/io/Serializable" (some 0) with
  accessFlags := 1537
  interfaces := #[]
  cf := some (fileOf pool2 1 #[] #[] 1537 3 #[] #[])
  fields := #[]
  methods := #[]
  instanceTypes := #[]
  staticTypes := #[]
  resolved := Array.replicate 7 none
  statics := none }

def pool3 : Array CpInfo := pool [(1, .class_ 2), (0, u "java/lang/Comparable"), (0, .class_ 4), (0, u "java/lang/Object")] 7

/-- java/lang/Comparable -/
def k3 : Class := { plain "java/lang/Comparable" (some 0) with
  accessFlags := 1537
  interfaces := #[]
  cf := some (fileOf pool3 1 #[] #[] 1537 3 #[] #[])
  fields := #[]
  methods := #[]
  instanceTypes := #[]
  staticTypes := #[]
  resolved := Array.replicate 12 none
  statics := none }

def pool4 : Array CpInfo := pool [(2, .class_ 4), (1, u "java/lang/CharSequence"), (42, .class_ 48), (0, u "java/lang/CharSequence$1CodePointIterator"), (10, .class_ 60), (0, u "java/lang/CharSequence$1CharIterator"), (5, .class_ 67), (0, u "java/lang/Object")] 63

/-- java/lang/CharSequence -/
def k4 : Class := { plain "java/lang/CharSequence" (some 0) with
  accessFlags := 1537
  interfaces := #[]
  cf := some (fileOf pool4 2 #[.nestMembers #[47, 59]] #[] 1537 66 #[] #[])
  fields := #[]
  methods := #[]
  instanceTypes := #[]
  staticTypes := #[]
  resolved := Array.replicate 131 none
  statics := none }

def pool5 : Array CpInfo := pool [(1, .class_ 2), (0, u "java/lang/constant/Constable"), (0, .class_ 4), (0, u "java/lang/Object")] 6

/-- java/lang/constant/Constable -/
def k5 : Class := { plain "java/lang/constant/Constable" (some 0) with
  accessFlags := 1537
  interfaces := #[]
  cf := some (fileOf pool5 1 #[] #[] 1537 3 #[] #[])
  fields := #[]
  methods := #[]
  instanceTypes := #[]
  staticTypes := #[]
  resolved := Array.replicate 11 none
  statics := none }

def pool6 : Array CpInfo := pool [(1, .class_ 2), (0, u "java/lang/constant/ConstantDesc"), (0, .class_ 4), (0, u "java/lang/Object")] 32

/-- java/lang/constant/ConstantDesc -/
def k6 : Class := { plain "java/lang/constant/ConstantDesc" (some 0) with
  accessFlags := 1537
  interfaces := #[]
  cf := some (fileOf pool6 1 #[] #[] 1537 3 #[] #[])
  fields := #[]
  methods := #[]
  instanceTypes := #[]
  staticTypes := #[]
  resolved := Array.replicate 37 none
  statics := none }

def pool7 : Array CpInfo := pool [(1, .methodref 2 3), (0, .class_ 4), (0, .nameAndType 5 6), (0, u "java/lang/Object"), (0, u "<init>"), (0, u "()V"), (0, .string 8), (0, u ""), (0, .fieldref 10 11), (0, .class_ 12), (0, .nameAndType 13 14), (0, u "java/lang/String"), (0, u "value"), (0, u "[B"), (0, .fieldref 10 16), (0, .nameAndType 17 18), (0, u "coder"), (0, u "B"), (2, u "hash"), (0, u "I"), (2, u "hashIsZero"), (0, u "Z"), (0, .methodref 10 28), (0, .nameAndType 5 29), (0, u "([CIILjava/lang/Void;)V"), (8, .fieldref 10 39), (0, .nameAndType 40 26), (0, u "COMPACT_STRINGS"), (1, .class_ 44), (1, u "java/lang/StringUTF16"), (0, u "compress"), (1, .methodref 42 48), (0, .nameAndType 49 50), (0, u "coderFromArrayLen"), (0, u "([BI)B"), (126, .methodref 42 178), (0, .nameAndType 45 179), (0, u "([CII)[B"), (395, .class_ 576), (0, u "java/lang/CharSequence"), (22, u "CASE_INSENSITIVE_ORDER"), (0, u "Ljava/util/Comparator;"), (409, u "([C)V"), (90, u "serialPersistentFields"), (0, u "[Ljava/io/ObjectStreamField;"), (0, .class_ 1104), (0, u "java/lang/String$CaseInsensitiveComparator"), (1, .class_ 1107), (0, u "java/io/Serializable"), (0, .class_ 1109), (0, u "java/lang/Comparable"), (0, .class_ 1111), (0, u "java/lang/constant/Constable"), (0, .class_ 1113), (0, u "java/lang/constant/ConstantDesc"), (2, u "serialVersionUID"), (0, u "J"), (3, u "REPL"), (0, u "C"), (2, u "LATIN1"), (1, u "UTF16")] 323

def k7m0 : Method := { name := "<init>", desc := "()V", sig := { parameters := [], returnType := none }, accessFlags := 1, code := none }
def k7c1 : Code := { maxStack := 5, maxLocals := 2, code := jdk_42_method_3_code, exceptionTable := #[], attributes := #[] }
def k7m1 : Method := { name := "<init>", desc := "([C)V", sig := { parameters := [(.array .char)], returnType := none }, accessFlags := 1, code := some k7c1 }
def k7c2 : Code := { maxStack := 4, maxLocals := 6, code := jdk_42_method_149_code, exceptionTable := #[], attributes := #[] }
def k7m2 : Method := { name := "<init>", desc := "([CIILjava/lang/Void;)V", sig := { parameters := [(.array .char), .int, .int, (.object "java/lang/Void")], returnType := none }, accessFlags := 2, code := some k7c2 }
/-- java/lang/String -/
def k7 : Class := { plain "java/lang/String" (some 0) with
  accessFlags := 49
  interfaces := #[2, 3, 4, 5, 6]
  cf := some (fileOf pool7 10 #[.nestMembers #[1103]] #[{ accessFlags := 1, nameIndex := 5, descriptorIndex := 6, attributes := #[] }, { accessFlags := 1, nameIndex := 5, descriptorIndex := 1010, attributes := #[] }, { accessFlags := 2, nameIndex := 5, descriptorIndex := 29, attributes := #[] }] 49 2 #[1106, 1108, 575, 1110, 1112] #[{ accessFlags := 18, nameIndex := 13, descriptorIndex := 14, attributes := #[] }, { accessFlags := 18, nameIndex := 17, descriptorIndex := 18, attributes := #[] }, { accessFlags := 2, nameIndex := 21, descriptorIndex := 22, attributes := #[] }, { accessFlags := 2, nameIndex := 25, descriptorIndex := 26, attributes := #[] }, { accessFlags := 26, nameIndex := 1116, descriptorIndex := 1117, attributes := #[] }, { accessFlags := 24, nameIndex := 40, descriptorIndex := 26, attributes := #[] }, { accessFlags := 26, nameIndex := 1101, descriptorIndex := 1102, attributes := #[] }, { accessFlags := 26, nameIndex := 1121, descriptorIndex := 1122, attributes := #[] }, { accessFlags := 25, nameIndex := 599, descriptorIndex := 600, attributes := #[] }, { accessFlags := 24, nameIndex := 1125, descriptorIndex := 18, attributes := #[] }, { accessFlags := 24, nameIndex := 1127, descriptorIndex := 18, attributes := #[] }])
  fields := #[{ name := "value", type := (.array .byte), accessFlags := 18, slot := 0, constantValue := 0 }, { name := "coder", type := .byte, accessFlags := 18, slot := 1, constantValue := 0 }, { name := "hash", type := .int, accessFlags := 2, slot := 2, constantValue := 0 }, { name := "hashIsZero", type := .boolean, accessFlags := 2, slot := 3, constantValue := 0 }, { name := "serialVersionUID", type := .long, accessFlags := 26, slot := 0, constantValue := 0 }, { name := "COMPACT_STRINGS", type := .boolean, accessFlags := 24, slot := 1, constantValue := 0 }, { name := "serialPersistentFields", type := (.array (.object "java/io/ObjectStreamField")), accessFlags := 26, slot := 2, constantValue := 0 }, { name := "REPL", type := .char, accessFlags := 26, slot := 3, constantValue := 0 }, { name := "CASE_INSENSITIVE_ORDER", type := (.object "java/util/Comparator"), accessFlags := 25, slot := 4, constantValue := 0 }, { name := "LATIN1", type := .byte, accessFlags := 24, slot := 5, constantValue := 0 }, { name := "UTF16", type := .byte, accessFlags := 24, slot := 6, constantValue := 0 }]
  methods := #[k7m0, k7m1, k7m2]
  instanceTypes := #[(.array .byte), .byte, .int, .boolean]
  staticTypes := #[.long, .boolean, (.array (.object "java/io/ObjectStreamField")), .char, (.object "java/util/Comparator"), .byte, .byte]
  resolved := Array.replicate 1451 none
  statics := some 0 }

def pool8 : Array CpInfo := pool [(6, .class_ 8), (1, u "java/lang/Object"), (0, u "<init>"), (0, u "()V"), (1, .class_ 14), (1, u "java/lang/StringUTF16"), (31, u "$assertionsDisabled"), (0, u "Z"), (13, u "HI_BYTE_SHIFT"), (0, u "I"), (2, u "LO_BYTE_SHIFT"), (49, .methodref 12 116), (0, .nameAndType 117 118), (0, u "compress"), (0, u "([CI[BII)I"), (3, u "([CII)[B"), (138, u "coderFromArrayLen"), (0, u "([BI)B"), (106, .class_ 371), (1, u "java/lang/StringUTF16$LinesSpliterator"), (58, u "MAX_LENGTH"), (196, .class_ 628), (0, u "java/lang/StringUTF16$CodePointsSpliterator"), (0, .class_ 630), (0, u "java/lang/StringUTF16$CharsSpliterator")] 4

def k8m0 : Method := { name := "<init>", desc := "()V", sig := { parameters := [], returnType := none }, accessFlags := 0, code := none }
def k8c1 : Code := { maxStack := 2, maxLocals := 2, code := jdk_52_method_15_code, exceptionTable := #[], attributes := #[] }
def k8m1 : Method := { name := "coderFromArrayLen", desc := "([BI)B", sig := { parameters := [(.array .byte), .int], returnType := some .byte }, accessFlags := 8, code := some k8c1 }
def k8c2 : Code := { maxStack := 5, maxLocals := 6, code := jdk_52_method_16_code, exceptionTable := #[], attributes := #[] }
def k8m2 : Method := { name := "compress", desc := "([CII)[B", sig := { parameters := [(.array .char), .int, .int], returnType := some (.array .byte) }, accessFlags := 9, code := some k8c2 }
def k8c3 : Code := { maxStack := 3, maxLocals := 7, code := jdk_52_method_21_code, exceptionTable := #[], attributes := #[] }
def k8m3 : Method := { name := "compress", desc := "([CI[BII)I", sig := { parameters := [(.array .char), .int, (.array .byte), .int, .int], returnType := some .int }, accessFlags := 9, code := some k8c3 }
/-- java/lang/StringUTF16 -/
def k8 : Class := { plain "java/lang/StringUTF16" (some 0) with
  accessFlags := 48
  interfaces := #[]
  cf := some (fileOf pool8 12 #[.nestMembers #[627, 629, 369]] #[{ accessFlags := 0, nameIndex := 9, descriptorIndex := 10, attributes := #[] }, { accessFlags := 8, nameIndex := 261, descriptorIndex := 262, attributes := #[] }, { accessFlags := 9, nameIndex := 117, descriptorIndex := 122, attributes := #[] }, { accessFlags := 9, nameIndex := 117, descriptorIndex := 118, attributes := #[] }] 48 6 #[] #[{ accessFlags := 26, nameIndex := 61, descriptorIndex := 62, attributes := #[] }, { accessFlags := 26, nameIndex := 65, descriptorIndex := 62, attributes := #[] }, { accessFlags := 24, nameIndex := 430, descriptorIndex := 62, attributes := #[] }, { accessFlags := 4120, nameIndex := 46, descriptorIndex := 47, attributes := #[] }])
  fields := #[{ name := "HI_BYTE_SHIFT", type := .int, accessFlags := 26, slot := 0, constantValue := 0 }, { name := "LO_BYTE_SHIFT", type := .int, accessFlags := 26, slot := 1, constantValue := 0 }, { name := "MAX_LENGTH", type := .int, accessFlags := 24, slot := 2, constantValue := 0 }, { name := "$assertionsDisabled", type := .boolean, accessFlags := 4120, slot := 3, constantValue := 0 }]
  methods := #[k8m0, k8m1, k8m2, k8m3]
  instanceTypes := #[]
  staticTypes := #[.int, .int, .int, .boolean]
  resolved := Array.replicate 635 none
  statics := none }

def pool9 : Array CpInfo := pool [(1, .methodref 2 3), (0, .class_ 4), (0, .nameAndType 5 6), (0, u "java/lang/Object"), (0, u "<init>"), (0, u "()V"), (0, .class_ 8), (0, u "java/lang/Record")] 13

def k9c0 : Code := { maxStack := 1, maxLocals := 1, code := jdk_30_method_1_code, exceptionTable := #[], attributes := #[] }
def k9m0 : Method := { name := "<init>", desc := "()V", sig := { parameters := [], returnType := none }, accessFlags := 4, code := some k9c0 }
/-- java/lang/Record -/
def k9 : Class := { plain "java/lang/Record" (some 0) with
  accessFlags := 1057
  interfaces := #[]
  cf := some (fileOf pool9 7 #[] #[{ accessFlags := 4, nameIndex := 5, descriptorIndex := 6, attributes := #[] }] 1057 2 #[] #[])
  fields := #[]
  methods := #[k9m0]
  instanceTypes := #[]
  staticTypes := #[]
  resolved := Array.replicate 22 none
  statics := none }

def pool10 : Array CpInfo := pool [(1, .methodref 2 3), (0, .class_ 4), (0, .nameAndType 5 6), (0, u "java/lang/Record"), (0, u "<init>"), (0, u "()V"), (0, .fieldref 8 9), (0, .class_ 10), (0, .nameAndType 11 12), (0, u "com/example/orderly_schema/orderlyschema/input/SqlTokenizer$Token"), (0, u "kind"), (0, u "Lcom/example/orderly_schema/orderlyschema/input/SqlTokenizer$Kind;"), (0, .fieldref 8 14), (0, .nameAndType 15 16), (0, u "text"), (0, u "Ljava/lang/String;"), (0, .fieldref 8 18), (0, .nameAndType 19 20), (0, u "line"), (0, u "J"), (0, .fieldref 22 23), (0, .class_ 24), (0, .nameAndType 25 12), (0, u "com/example/orderly_schema/orderlyschema/input/SqlTokenizer$Kind"), (0, u "WORD"), (1, .class_ 29), (1, u "com/example/orderly_schema/orderlyschema/input/SqlTokenizer"), (11, .fieldref 22 42), (0, .nameAndType 43 12), (0, u "QUOTED_NAME"), (35, u "DESCRIBED_LENGTH"), (0, u "I"), (2, u "(Lcom/example/orderly_schema/orderlyschema/input/SqlTokenizer$Kind;Ljava/lang/String;J)V"), (7, u "isName"), (0, u "()Z")] 43

def k10c0 : Code := { maxStack := 3, maxLocals := 5, code := prog_51_method_1_code, exceptionTable := #[], attributes := #[] }
def k10m0 : Method := { name := "<init>", desc := "(Lcom/example/orderly_schema/orderlyschema/input/SqlTokenizer$Kind;Ljava/lang/String;J)V", sig := { parameters := [(.object "com/example/orderly_schema/orderlyschema/input/SqlTokenizer$Kind"), (.object "java/lang/String"), .long], returnType := none }, accessFlags := 0, code := some k10c0 }
def k10c1 : Code := { maxStack := 2, maxLocals := 1, code := prog_51_method_4_code, exceptionTable := #[], attributes := #[] }
def k10m1 : Method := { name := "isName", desc := "()Z", sig := { parameters := [], returnType := some .boolean }, accessFlags := 0, code := some k10c1 }
/-- com/example/orderly_schema/orderlyschema/input/SqlTokenizer$Token -/
def k10 : Class := { plain "com/example/orderly_schema/orderlyschema/input/SqlTokenizer$Token" (some 9) with
  accessFlags := 48
  interfaces := #[]
  cf := some (fileOf pool10 8 #[.nestHost 27] #[{ accessFlags := 0, nameIndex := 5, descriptorIndex := 83, attributes := #[] }, { accessFlags := 0, nameIndex := 91, descriptorIndex := 92, attributes := #[] }] 48 2 #[] #[{ accessFlags := 18, nameIndex := 11, descriptorIndex := 12, attributes := #[] }, { accessFlags := 18, nameIndex := 15, descriptorIndex := 16, attributes := #[] }, { accessFlags := 18, nameIndex := 19, descriptorIndex := 20, attributes := #[] }, { accessFlags := 26, nameIndex := 79, descriptorIndex := 80, attributes := #[] }])
  fields := #[{ name := "kind", type := (.object "com/example/orderly_schema/orderlyschema/input/SqlTokenizer$Kind"), accessFlags := 18, slot := 0, constantValue := 0 }, { name := "text", type := (.object "java/lang/String"), accessFlags := 18, slot := 1, constantValue := 0 }, { name := "line", type := .long, accessFlags := 18, slot := 2, constantValue := 0 }, { name := "DESCRIBED_LENGTH", type := .int, accessFlags := 26, slot := 0, constantValue := 0 }]
  methods := #[k10m0, k10m1]
  instanceTypes := #[(.object "com/example/orderly_schema/orderlyschema/input/SqlTokenizer$Kind"), (.object "java/lang/String"), .long]
  staticTypes := #[.int]
  resolved := Array.replicate 136 none
  statics := none }

def pool11 : Array CpInfo := pool [(2, .class_ 4), (1, u "java/lang/Enum"), (0, u "name"), (0, u "Ljava/lang/String;"), (2, u "ordinal"), (0, u "I"), (1, .class_ 14), (1, u "java/lang/Object"), (4, u "hash"), (86, .class_ 108), (1, u "java/lang/Enum$EnumDesc"), (2, .class_ 112), (0, u "java/lang/constant/Constable"), (0, .class_ 114), (0, u "java/lang/Comparable"), (0, .class_ 116), (0, u "java/io/Serializable")] 87

/-- java/lang/Enum -/
def k11 : Class := { plain "java/lang/Enum" (some 0) with
  accessFlags := 1057
  interfaces := #[5, 3, 2]
  cf := some (fileOf pool11 2 #[.nestMembers #[106]] #[] 1057 12 #[111, 113, 115] #[{ accessFlags := 18, nameIndex := 5, descriptorIndex := 6, attributes := #[] }, { accessFlags := 18, nameIndex := 9, descriptorIndex := 10, attributes := #[] }, { accessFlags := 2, nameIndex := 19, descriptorIndex := 10, attributes := #[] }])
  fields := #[{ name := "name", type := (.object "java/lang/String"), accessFlags := 18, slot := 0, constantValue := 0 }, { name := "ordinal", type := .int, accessFlags := 18, slot := 1, constantValue := 0 }, { name := "hash", type := .int, accessFlags := 2, slot := 2, constantValue := 0 }]
  methods := #[]
  instanceTypes := #[(.object "java/lang/String"), .int, .int]
  staticTypes := #[]
  resolved := Array.replicate 204 none
  statics := none }

def pool12 : Array CpInfo := pool [(1, .class_ 2), (0, u "com/example/orderly_schema/orderlyschema/input/SqlTokenizer$Kind"), (2, u "WORD"), (0, u "Lcom/example/orderly_schema/orderlyschema/input/SqlTokenizer$Kind;"), (2, u "QUOTED_NAME"), (2, u "STRING"), (2, u "NUMBER"), (2, u "SYMBOL"), (2, u "END"), (2, u "$VALUES"), (0, u "[Lcom/example/orderly_schema/orderlyschema/input/SqlTokenizer$Kind;"), (6, .class_ 34), (1, u "java/lang/Enum"), (29, .class_ 65), (0, u "com/example/orderly_schema/orderlyschema/input/SqlTokenizer")] 2

/-- com/example/orderly_schema/orderlyschema/input/SqlTokenizer$Kind -/
def k12 : Class := { plain "com/example/orderly_schema/orderlyschema/input/SqlTokenizer$Kind" (some 11) with
  accessFlags := 16432
  interfaces := #[]
  cf := some (fileOf pool12 1 #[.nestHost 64] #[] 16432 32 #[] #[{ accessFlags := 16409, nameIndex := 5, descriptorIndex := 6, attributes := #[] }, { accessFlags := 16409, nameIndex := 9, descriptorIndex := 6, attributes := #[] }, { accessFlags := 16409, nameIndex := 12, descriptorIndex := 6, attributes := #[] }, { accessFlags := 16409, nameIndex := 15, descriptorIndex := 6, attributes := #[] }, { accessFlags := 16409, nameIndex := 18, descriptorIndex := 6, attributes := #[] }, { accessFlags := 16409, nameIndex := 21, descriptorIndex := 6, attributes := #[] }, { accessFlags := 4122, nameIndex := 24, descriptorIndex := 25, attributes := #[] }])
  fields := #[{ name := "WORD", type := (.object "com/example/orderly_schema/orderlyschema/input/SqlTokenizer$Kind"), accessFlags := 16409, slot := 0, constantValue := 0 }, { name := "QUOTED_NAME", type := (.object "com/example/orderly_schema/orderlyschema/input/SqlTokenizer$Kind"), accessFlags := 16409, slot := 1, constantValue := 0 }, { name := "STRING", type := (.object "com/example/orderly_schema/orderlyschema/input/SqlTokenizer$Kind"), accessFlags := 16409, slot := 2, constantValue := 0 }, { name := "NUMBER", type := (.object "com/example/orderly_schema/orderlyschema/input/SqlTokenizer$Kind"), accessFlags := 16409, slot := 3, constantValue := 0 }, { name := "SYMBOL", type := (.object "com/example/orderly_schema/orderlyschema/input/SqlTokenizer$Kind"), accessFlags := 16409, slot := 4, constantValue := 0 }, { name := "END", type := (.object "com/example/orderly_schema/orderlyschema/input/SqlTokenizer$Kind"), accessFlags := 16409, slot := 5, constantValue := 0 }, { name := "$VALUES", type := (.array (.object "com/example/orderly_schema/orderlyschema/input/SqlTokenizer$Kind")), accessFlags := 4122, slot := 6, constantValue := 0 }]
  methods := #[]
  instanceTypes := #[(.object "java/lang/String"), .int, .int]
  staticTypes := #[(.object "com/example/orderly_schema/orderlyschema/input/SqlTokenizer$Kind"), (.object "com/example/orderly_schema/orderlyschema/input/SqlTokenizer$Kind"), (.object "com/example/orderly_schema/orderlyschema/input/SqlTokenizer$Kind"), (.object "com/example/orderly_schema/orderlyschema/input/SqlTokenizer$Kind"), (.object "com/example/orderly_schema/orderlyschema/input/SqlTokenizer$Kind"), (.object "com/example/orderly_schema/orderlyschema/input/SqlTokenizer$Kind"), (.array (.object "com/example/orderly_schema/orderlyschema/input/SqlTokenizer$Kind"))]
  resolved := Array.replicate 68 none
  statics := some 1 }

def pool13 : Array CpInfo := pool [(4, .class_ 6), (1, u "java/lang/Object"), (0, u "<init>"), (0, u "()V"), (5, .class_ 16), (1, u "java/lang/StringLatin1"), (104, u "$assertionsDisabled"), (0, u "Z"), (98, .class_ 223), (1, u "java/lang/StringLatin1$LinesSpliterator"), (166, .class_ 391), (0, u "java/lang/StringLatin1$CharsSpliterator")] 3

def k13m0 : Method := { name := "<init>", desc := "()V", sig := { parameters := [], returnType := none }, accessFlags := 0, code := none }
/-- java/lang/StringLatin1 -/
def k13 : Class := { plain "java/lang/StringLatin1" (some 0) with
  accessFlags := 48
  interfaces := #[]
  cf := some (fileOf pool13 14 #[.nestMembers #[390, 221]] #[{ accessFlags := 0, nameIndex := 7, descriptorIndex := 8, attributes := #[] }] 48 4 #[] #[{ accessFlags := 4120, nameIndex := 121, descriptorIndex := 122, attributes := #[] }])
  fields := #[{ name := "$assertionsDisabled", type := .boolean, accessFlags := 4120, slot := 0, constantValue := 0 }]
  methods := #[k13m0]
  instanceTypes := #[]
  staticTypes := #[.boolean]
  resolved := Array.replicate 395 none
  statics := none }

def pool14 : Array CpInfo := pool [(2, .class_ 4), (1, u "java/lang/Object"), (0, u "<init>"), (0, u "()V"), (17, .class_ 26), (1, u "jdk/internal/util/Preconditions"), (28, .class_ 56), (0, u "jdk/internal/util/Preconditions$4"), (57, .class_ 115), (0, u "jdk/internal/util/Preconditions$1"), (7, u "SIOOBE_FORMATTER"), (0, u "Ljava/util/function/BiFunction;"), (0, .class_ 126), (0, u "jdk/internal/util/Preconditions$2"), (3, u "AIOOBE_FORMATTER"), (0, .class_ 132), (0, u "jdk/internal/util/Preconditions$3"), (3, u "IOOBE_FORMATTER")] 57

def k14m0 : Method := { name := "<init>", desc := "()V", sig := { parameters := [], returnType := none }, accessFlags := 1, code := none }
/-- jdk/internal/util/Preconditions -/
def k14 : Class := { plain "jdk/internal/util/Preconditions" (some 0) with
  accessFlags := 33
  interfaces := #[]
  cf := some (fileOf pool14 24 #[.nestMembers #[55, 131, 125, 114]] #[{ accessFlags := 1, nameIndex := 5, descriptorIndex := 6, attributes := #[] }] 33 2 #[] #[{ accessFlags := 25, nameIndex := 123, descriptorIndex := 124, attributes := #[] }, { accessFlags := 25, nameIndex := 130, descriptorIndex := 124, attributes := #[] }, { accessFlags := 25, nameIndex := 136, descriptorIndex := 124, attributes := #[] }])
  fields := #[{ name := "SIOOBE_FORMATTER", type := (.object "java/util/function/BiFunction"), accessFlags := 25, slot := 0, constantValue := 0 }, { name := "AIOOBE_FORMATTER", type := (.object "java/util/function/BiFunction"), accessFlags := 25, slot := 1, constantValue := 0 }, { name := "IOOBE_FORMATTER", type := (.object "java/util/function/BiFunction"), accessFlags := 25, slot := 2, constantValue := 0 }]
  methods := #[k14m0]
  instanceTypes := #[]
  staticTypes := #[(.object "java/util/function/BiFunction"), (.object "java/util/function/BiFunction"), (.object "java/util/function/BiFunction")]
  resolved := Array.replicate 194 none
  statics := some 2 }

def pool15 : Array CpInfo := pool [(9, u "<init>"), (6, .class_ 18), (1, u "java/lang/Object"), (0, u "()V"), (1, .class_ 23), (1, u "jdk/internal/util/ArraysSupport"), (0, u "LOG2_ARRAY_LONG_INDEX_SCALE"), (0, u "I"), (2, u "U"), (0, u "Ljdk/internal/misc/Unsafe;"), (8, u "BIG_ENDIAN"), (0, u "Z"), (8, u "LOG2_BYTE_BIT_SIZE"), (4, u "LOG2_ARRAY_INT_INDEX_SCALE"), (54, u "JLA"), (0, u "Ljdk/internal/access/JavaLangAccess;"), (11, u "LOG2_ARRAY_BOOLEAN_INDEX_SCALE"), (9, u "LOG2_ARRAY_BYTE_INDEX_SCALE"), (5, u "LOG2_ARRAY_CHAR_INDEX_SCALE"), (5, u "LOG2_ARRAY_SHORT_INDEX_SCALE"), (18, u "LOG2_ARRAY_FLOAT_INDEX_SCALE"), (24, u "LOG2_ARRAY_DOUBLE_INDEX_SCALE"), (89, u "T_BOOLEAN"), (2, u "T_CHAR"), (1, u "T_FLOAT"), (1, u "T_DOUBLE"), (1, u "T_BYTE"), (1, u "T_SHORT"), (1, u "T_INT"), (1, u "T_LONG"), (1, u "SOFT_MAX_ARRAY_LENGTH")] 83

def k15m0 : Method := { name := "<init>", desc := "()V", sig := { parameters := [], returnType := none }, accessFlags := 2, code := none }
/-- jdk/internal/util/ArraysSupport -/
def k15 : Class := { plain "jdk/internal/util/ArraysSupport" (some 0) with
  accessFlags := 33
  interfaces := #[]
  cf := some (fileOf pool15 21 #[] #[{ accessFlags := 2, nameIndex := 9, descriptorIndex := 19, attributes := #[] }] 33 16 #[] #[{ accessFlags := 24, nameIndex := 28, descriptorIndex := 29, attributes := #[] }, { accessFlags := 26, nameIndex := 38, descriptorIndex := 39, attributes := #[] }, { accessFlags := 25, nameIndex := 121, descriptorIndex := 25, attributes := #[] }, { accessFlags := 25, nameIndex := 131, descriptorIndex := 25, attributes := #[] }, { accessFlags := 25, nameIndex := 137, descriptorIndex := 25, attributes := #[] }, { accessFlags := 25, nameIndex := 143, descriptorIndex := 25, attributes := #[] }, { accessFlags := 25, nameIndex := 53, descriptorIndex := 25, attributes := #[] }, { accessFlags := 25, nameIndex := 24, descriptorIndex := 25, attributes := #[] }, { accessFlags := 25, nameIndex := 162, descriptorIndex := 25, attributes := #[] }, { accessFlags := 25, nameIndex := 187, descriptorIndex := 25, attributes := #[] }, { accessFlags := 26, nameIndex := 48, descriptorIndex := 25, attributes := #[] }, { accessFlags := 25, nameIndex := 277, descriptorIndex := 25, attributes := #[] }, { accessFlags := 25, nameIndex := 280, descriptorIndex := 25, attributes := #[] }, { accessFlags := 25, nameIndex := 282, descriptorIndex := 25, attributes := #[] }, { accessFlags := 25, nameIndex := 284, descriptorIndex := 25, attributes := #[] }, { accessFlags := 25, nameIndex := 286, descriptorIndex := 25, attributes := #[] }, { accessFlags := 25, nameIndex := 288, descriptorIndex := 25, attributes := #[] }, { accessFlags := 25, nameIndex := 290, descriptorIndex := 25, attributes := #[] }, { accessFlags := 25, nameIndex := 292, descriptorIndex := 25, attributes := #[] }, { accessFlags := 26, nameIndex := 108, descriptorIndex := 109, attributes := #[] }, { accessFlags := 25, nameIndex := 294, descriptorIndex := 25, attributes := #[] }])
  fields := #[{ name := "U", type := (.object "jdk/internal/misc/Unsafe"), accessFlags := 24, slot := 0, constantValue := 0 }, { name := "BIG_ENDIAN", type := .boolean, accessFlags := 26, slot := 1, constantValue := 0 }, { name := "LOG2_ARRAY_BOOLEAN_INDEX_SCALE", type := .int, accessFlags := 25, slot := 2, constantValue := 0 }, { name := "LOG2_ARRAY_BYTE_INDEX_SCALE", type := .int, accessFlags := 25, slot := 3, constantValue := 0 }, { name := "LOG2_ARRAY_CHAR_INDEX_SCALE", type := .int, accessFlags := 25, slot := 4, constantValue := 0 }, { name := "LOG2_ARRAY_SHORT_INDEX_SCALE", type := .int, accessFlags := 25, slot := 5, constantValue := 0 }, { name := "LOG2_ARRAY_INT_INDEX_SCALE", type := .int, accessFlags := 25, slot := 6, constantValue := 0 }, { name := "LOG2_ARRAY_LONG_INDEX_SCALE", type := .int, accessFlags := 25, slot := 7, constantValue := 0 }, { name := "LOG2_ARRAY_FLOAT_INDEX_SCALE", type := .int, accessFlags := 25, slot := 8, constantValue := 0 }, { name := "LOG2_ARRAY_DOUBLE_INDEX_SCALE", type := .int, accessFlags := 25, slot := 9, constantValue := 0 }, { name := "LOG2_BYTE_BIT_SIZE", type := .int, accessFlags := 26, slot := 10, constantValue := 0 }, { name := "T_BOOLEAN", type := .int, accessFlags := 25, slot := 11, constantValue := 0 }, { name := "T_CHAR", type := .int, accessFlags := 25, slot := 12, constantValue := 0 }, { name := "T_FLOAT", type := .int, accessFlags := 25, slot := 13, constantValue := 0 }, { name := "T_DOUBLE", type := .int, accessFlags := 25, slot := 14, constantValue := 0 }, { name := "T_BYTE", type := .int, accessFlags := 25, slot := 15, constantValue := 0 }, { name := "T_SHORT", type := .int, accessFlags := 25, slot := 16, constantValue := 0 }, { name := "T_INT", type := .int, accessFlags := 25, slot := 17, constantValue := 0 }, { name := "T_LONG", type := .int, accessFlags := 25, slot := 18, constantValue := 0 }, { name := "JLA", type := (.object "jdk/internal/access/JavaLangAccess"), accessFlags := 26, slot := 19, constantValue := 0 }, { name := "SOFT_MAX_ARRAY_LENGTH", type := .int, accessFlags := 25, slot := 20, constantValue := 0 }]
  methods := #[k15m0]
  instanceTypes := #[]
  staticTypes := #[(.object "jdk/internal/misc/Unsafe"), .boolean, .int, .int, .int, .int, .int, .int, .int, .int, .int, .int, .int, .int, .int, .int, .int, .int, .int, (.object "jdk/internal/access/JavaLangAccess"), .int]
  resolved := Array.replicate 378 none
  statics := none }

def pool16 : Array CpInfo := pool [(1, u "java/lang/Cloneable"), (0, .class_ 1), (0, u "java/lang/Object"), (0, .class_ 3)] 3

/-- java/lang/Cloneable -/
def k16 : Class := { plain "java/lang/Cloneable" (some 0) with
  accessFlags := 1537
  interfaces := #[]
  cf := some (fileOf pool16 2 #[] #[] 1537 4 #[] #[])
  fields := #[]
  methods := #[]
  instanceTypes := #[]
  staticTypes := #[]
  resolved := Array.replicate 8 none
  statics := none }

/-- the primitive byte -/
def k17 : Class := { plain "byte" none with kind := .primitive 'B', accessFlags := 0x411 }
/-- [B -/
def k18 : Class := { plain "[B" (some 0) with kind := .array 17 .byte, interfaces := #[16, 2], accessFlags := 1041 }

/-- the primitive char -/
def k19 : Class := { plain "char" none with kind := .primitive 'C', accessFlags := 0x411 }
/-- [C -/
def k20 : Class := { plain "[C" (some 0) with kind := .array 19 .char, interfaces := #[16, 2], accessFlags := 1041 }

/-- the primitive int -/
def k21 : Class := { plain "int" none with kind := .primitive 'I', accessFlags := 0x411 }
/-- [I -/
def k22 : Class := { plain "[I" (some 0) with kind := .array 21 .int, interfaces := #[16, 2], accessFlags := 1041 }

def heap : Heap := #[{ cls := 7, slots := #[.long 0, .int 1, .null, .int 0, .null, .int 0, .int 0], vm := .statics 7 },
  { cls := 12, slots := #[.ref 3, .ref 4, .ref 5, .ref 6, .ref 7, .ref 8, .null], vm := .statics 12 },
  { cls := 14, slots := #[.null, .null, .null], vm := .statics 14 },
  { cls := 12, slots := #[.null, .int 0, .int 0], vm := .none },
  { cls := 12, slots := #[.null, .int 1, .int 0], vm := .none },
  { cls := 12, slots := #[.null, .int 2, .int 0], vm := .none },
  { cls := 12, slots := #[.null, .int 3, .int 0], vm := .none },
  { cls := 12, slots := #[.null, .int 4, .int 0], vm := .none },
  { cls := 12, slots := #[.null, .int 5, .int 0], vm := .none }]
def classes : Array Class := #[k0, k1, k2, k3, k4, k5, k6, k7, k8, k9, k10, k11, k12, k13, k14, k15, k16, k17, k18, k19, k20, k21, k22]
def interned : List (Array UInt16 × Addr) := []
def slotsUsed : Nat := 35
def theMethod : MethodId := ⟨1, 2⟩
def args0 : Array Value := #[.int 97, .int 98, .int 2, .int 2, .long 7]
def aboutOver (below : List Frame) : State where
  vm := { classes := classes, interned := interned.toArray }
  heap := heap
  slotsUsed := slotsUsed
  threads := #[{ frames := .invoking theMethod args0 :: below }]
def below0 : List Frame := [.native { method := ⟨0, 0⟩, args := #[] }]
def about1 : State := aboutOver below0
def p0 : Program := .bare "" "" ""
def e0 : Env := launch0.env 0 0 0
theorem w_frames : about1.frames = Frame.invoking theMethod args0 :: below0 := rfl
set_option maxRecDepth 65536 in
theorem w_args : argsFit about1.vm theMethod args0 = true := by decide +kernel
theorem heapFits_list (s : State) : heapFits s = s.heap.toList.all (cellFits s) := by simp [heapFits, Array.all_toList]
set_option maxRecDepth 65536 in
theorem w_heap : heapFits about1 = true := by
  rw [heapFits_list]
  decide +kernel
set_option maxRecDepth 65536 in
theorem w_runnable : about1.curStatus? = some .runnable := by decide +kernel
set_option maxRecDepth 65536 in
theorem w_alone : about1.alone = true := by decide +kernel
set_option maxRecDepth 65536 in
theorem w_named : about1.methodNamed? x = some theMethod := by decide +kernel
set_option maxRecDepth 65536 in
theorem w_hears : about1.hears theMethod below0 = true := by decide +kernel
set_option maxRecDepth 65536 in
theorem w_ripe : about1.ripe theMethod args0 below0 = true := by decide +kernel
theorem w_running : about1.status = .running := rfl
set_option maxRecDepth 65536 in
theorem w_room : about1.hasRoom e0.platform room_1 = true :=
  launch0.hasRoom_least _ room_1 (by decide +kernel) (by decide +kernel) (by decide +kernel) (by decide +kernel) (by decide +kernel) (by decide +kernel)
theorem allAtoms_all (ts : List Jvm.Cond) (a : Array Jvm.Value) (st : Jvm.State) : (allAtoms ts).before a st = ts.all (fun c => c.before a st) := by
  induction ts with
  | nil => rfl
  | cons c t ih =>
    show (Jvm.Cond.and c (allAtoms t)).before a st = _
    rw [Jvm.Cond.before_and, ih, List.all_cons]
def words1 : List Jvm.Cond := Jvm.Cond.code x code maxLocals ret :: tables_1
/-- a 'code' word, met by the world's own term for the bytes: nothing is compared byte by byte -/
theorem code_word {y : MethodName} {bytes : ByteArray} {mx : Nat} {rt : Option FieldType} {a : Array Value} {s : State} {m : MethodId} {meth : Method} {c : Code} (h1 : s.methodNamed? y = some m) (h2 : s.vm.method? m = some meth) (h3 : meth.code = some c) (h4 : c.code = bytes)
    (h5 : (c.maxLocals == mx && c.exceptionTable.isEmpty && decide (c.maxStack ≤ mostOperands) && decide (meth.sig.returnType = rt) && !meth.locks && decide (parseMethodDescriptor y.desc = some meth.sig)) = true) : (Jvm.Cond.code y bytes mx rt).before a s = true := by
  simp only [Bool.and_eq_true, beq_iff_eq, Bool.not_eq_true', decide_eq_true_eq] at h5
  obtain ⟨⟨⟨⟨⟨g1, g2⟩, g3⟩, g4⟩, g5⟩, g6⟩ := h5
  simp [Cond.before, Cond.holds, Cond.value, h1, h2, h3, h4, g1, g2, g3, g4, g5, g6]
def isCode : Jvm.Cond → Bool
  | .code _ _ _ _ => true
  | _ => false
theorem all_split {L : List Jvm.Cond} {P : Jvm.Cond → Bool} (h1 : L.all (fun c => isCode c || P c) = true) (h2 : ∀ c ∈ L.filter isCode, P c = true) : L.all P = true := by
  refine List.all_eq_true.mpr fun c hc => ?_
  have h := List.all_eq_true.mp h1 c hc
  rcases Bool.eq_false_or_eq_true (isCode c) with hi | hi
  · exact h2 c (List.mem_filter.mpr ⟨hc, hi⟩)
  · simpa [hi] using h
set_option maxRecDepth 65536 in
theorem w_c0 : (Jvm.Cond.code x code maxLocals ret).before args0 about1 = true := code_word (m := ⟨1, 2⟩) (meth := k1m2) (c := k1c2) (by decide +kernel) rfl rfl rfl (by decide +kernel)
set_option maxRecDepth 65536 in
theorem w_c1 : (Jvm.Cond.code ({ cls := "java/lang/String", name := "<init>", desc := "([C)V" } : Jvm.MethodName) jdk_42_method_3_code (2 : Nat) (Option.none : Option Jvm.ClassFile.FieldType)).before args0 about1 = true := code_word (m := ⟨7, 1⟩) (meth := k7m1) (c := k7c1) (by decide +kernel) rfl rfl rfl (by decide +kernel)
set_option maxRecDepth 65536 in
theorem w_c2 : (Jvm.Cond.code ({ cls := "java/lang/String", name := "<init>", desc := "([CIILjava/lang/Void;)V" } : Jvm.MethodName) jdk_42_method_149_code (6 : Nat) (Option.none : Option Jvm.ClassFile.FieldType)).before args0 about1 = true := code_word (m := ⟨7, 2⟩) (meth := k7m2) (c := k7c2) (by decide +kernel) rfl rfl rfl (by decide +kernel)
set_option maxRecDepth 65536 in
theorem w_c3 : (Jvm.Cond.code ({ cls := "java/lang/Object", name := "<init>", desc := "()V" } : Jvm.MethodName) object_method_1_code (1 : Nat) (Option.none : Option Jvm.ClassFile.FieldType)).before args0 about1 = true := code_word (m := ⟨0, 0⟩) (meth := k0m0) (c := k0c0) (by decide +kernel) rfl rfl rfl (by decide +kernel)
set_option maxRecDepth 65536 in
theorem w_c4 : (Jvm.Cond.code ({ cls := "java/lang/StringUTF16", name := "compress", desc := "([CII)[B" } : Jvm.MethodName) jdk_52_method_16_code (6 : Nat) (Option.some (Jvm.ClassFile.FieldType.array Jvm.ClassFile.FieldType.byte))).before args0 about1 = true := code_word (m := ⟨8, 2⟩) (meth := k8m2) (c := k8c2) (by decide +kernel) rfl rfl rfl (by decide +kernel)
set_option maxRecDepth 65536 in
theorem w_c5 : (Jvm.Cond.code ({ cls := "java/lang/StringUTF16", name := "compress", desc := "([CI[BII)I" } : Jvm.MethodName) jdk_52_method_21_code (7 : Nat) (Option.some Jvm.ClassFile.FieldType.int)).before args0 about1 = true := code_word (m := ⟨8, 3⟩) (meth := k8m3) (c := k8c3) (by decide +kernel) rfl rfl rfl (by decide +kernel)
set_option maxRecDepth 65536 in
theorem w_c6 : (Jvm.Cond.code ({ cls := "java/lang/StringUTF16", name := "coderFromArrayLen", desc := "([BI)B" } : Jvm.MethodName) jdk_52_method_15_code (2 : Nat) (Option.some Jvm.ClassFile.FieldType.byte)).before args0 about1 = true := code_word (m := ⟨8, 1⟩) (meth := k8m1) (c := k8c1) (by decide +kernel) rfl rfl rfl (by decide +kernel)
set_option maxRecDepth 65536 in
theorem w_c7 : (Jvm.Cond.code ({ cls := "com/example/orderly_schema/orderlyschema/input/TokenIsNamePinLaw", name := "kindOf", desc := "(I)Lcom/example/orderly_schema/orderlyschema/input/SqlTokenizer$Kind;" } : Jvm.MethodName) method_2_code (1 : Nat) (Option.some (Jvm.ClassFile.FieldType.object "com/example/orderly_schema/orderlyschema/input/SqlTokenizer$Kind"))).before args0 about1 = true := code_word (m := ⟨1, 1⟩) (meth := k1m1) (c := k1c1) (by decide +kernel) rfl rfl rfl (by decide +kernel)
set_option maxRecDepth 65536 in
theorem w_c8 : (Jvm.Cond.code ({ cls := "com/example/orderly_schema/orderlyschema/input/SqlTokenizer$Token", name := "<init>", desc := "(Lcom/example/orderly_schema/orderlyschema/input/SqlTokenizer$Kind;Ljava/lang/String;J)V" } : Jvm.MethodName) prog_51_method_1_code (5 : Nat) (Option.none : Option Jvm.ClassFile.FieldType)).before args0 about1 = true := code_word (m := ⟨10, 0⟩) (meth := k10m0) (c := k10c0) (by decide +kernel) rfl rfl rfl (by decide +kernel)
set_option maxRecDepth 65536 in
theorem w_c9 : (Jvm.Cond.code ({ cls := "java/lang/Record", name := "<init>", desc := "()V" } : Jvm.MethodName) jdk_30_method_1_code (1 : Nat) (Option.none : Option Jvm.ClassFile.FieldType)).before args0 about1 = true := code_word (m := ⟨9, 0⟩) (meth := k9m0) (c := k9c0) (by decide +kernel) rfl rfl rfl (by decide +kernel)
set_option maxRecDepth 65536 in
theorem w_c10 : (Jvm.Cond.code ({ cls := "com/example/orderly_schema/orderlyschema/input/SqlTokenizer$Token", name := "isName", desc := "()Z" } : Jvm.MethodName) prog_51_method_4_code (1 : Nat) (Option.some Jvm.ClassFile.FieldType.boolean)).before args0 about1 = true := code_word (m := ⟨10, 1⟩) (meth := k10m1) (c := k10c1) (by decide +kernel) rfl rfl rfl (by decide +kernel)
def codes1 : List Jvm.Cond := [Jvm.Cond.code x code maxLocals ret, Jvm.Cond.code ({ cls := "java/lang/String", name := "<init>", desc := "([C)V" } : Jvm.MethodName) jdk_42_method_3_code (2 : Nat) (Option.none : Option Jvm.ClassFile.FieldType), Jvm.Cond.code ({ cls := "java/lang/String", name := "<init>", desc := "([CIILjava/lang/Void;)V" } : Jvm.MethodName) jdk_42_method_149_code (6 : Nat) (Option.none : Option Jvm.ClassFile.FieldType), Jvm.Cond.code ({ cls := "java/lang/Object", name := "<init>", desc := "()V" } : Jvm.MethodName) object_method_1_code (1 : Nat) (Option.none : Option Jvm.ClassFile.FieldType), Jvm.Cond.code ({ cls := "java/lang/StringUTF16", name := "compress", desc := "([CII)[B" } : Jvm.MethodName) jdk_52_method_16_code (6 : Nat) (Option.some (Jvm.ClassFile.FieldType.array Jvm.ClassFile.FieldType.byte)), Jvm.Cond.code ({ cls := "java/lang/StringUTF16", name := "compress", desc := "([CI[BII)I" } : Jvm.MethodName) jdk_52_method_21_code (7 : Nat) (Option.some Jvm.ClassFile.FieldType.int), Jvm.Cond.code ({ cls := "java/lang/StringUTF16", name := "coderFromArrayLen", desc := "([BI)B" } : Jvm.MethodName) jdk_52_method_15_code (2 : Nat) (Option.some Jvm.ClassFile.FieldType.byte), Jvm.Cond.code ({ cls := "com/example/orderly_schema/orderlyschema/input/TokenIsNamePinLaw", name := "kindOf", desc := "(I)Lcom/example/orderly_schema/orderlyschema/input/SqlTokenizer$Kind;" } : Jvm.MethodName) method_2_code (1 : Nat) (Option.some (Jvm.ClassFile.FieldType.object "com/example/orderly_schema/orderlyschema/input/SqlTokenizer$Kind")), Jvm.Cond.code ({ cls := "com/example/orderly_schema/orderlyschema/input/SqlTokenizer$Token", name := "<init>", desc := "(Lcom/example/orderly_schema/orderlyschema/input/SqlTokenizer$Kind;Ljava/lang/String;J)V" } : Jvm.MethodName) prog_51_method_1_code (5 : Nat) (Option.none : Option Jvm.ClassFile.FieldType), Jvm.Cond.code ({ cls := "java/lang/Record", name := "<init>", desc := "()V" } : Jvm.MethodName) jdk_30_method_1_code (1 : Nat) (Option.none : Option Jvm.ClassFile.FieldType), Jvm.Cond.code ({ cls := "com/example/orderly_schema/orderlyschema/input/SqlTokenizer$Token", name := "isName", desc := "()Z" } : Jvm.MethodName) prog_51_method_4_code (1 : Nat) (Option.some Jvm.ClassFile.FieldType.boolean)]
set_option maxRecDepth 65536 in
theorem codes_eq : words1.filter isCode = codes1 := rfl
theorem w_codes : ∀ c ∈ words1.filter isCode, c.before args0 about1 = true := by
  rw [codes_eq]
  intro c hc
  simp only [codes1, List.mem_cons, List.not_mem_nil, or_false] at hc
  rcases hc with rfl | rfl | rfl | rfl | rfl | rfl | rfl | rfl | rfl | rfl | rfl
  · exact w_c0
  · exact w_c1
  · exact w_c2
  · exact w_c3
  · exact w_c4
  · exact w_c5
  · exact w_c6
  · exact w_c7
  · exact w_c8
  · exact w_c9
  · exact w_c10
set_option maxRecDepth 65536 in
theorem w_t1 : (words1.take 24).all (fun c => isCode c || c.before args0 about1) = true := by decide +kernel
set_option maxRecDepth 65536 in
theorem w_t2 : ((words1.drop 24).take 24).all (fun c => isCode c || c.before args0 about1) = true := by decide +kernel
set_option maxRecDepth 65536 in
theorem w_t3 : (((words1.drop 24).drop 24).take 24).all (fun c => isCode c || c.before args0 about1) = true := by decide +kernel
set_option maxRecDepth 65536 in
theorem w_t4 : (((words1.drop 24).drop 24).drop 24).all (fun c => isCode c || c.before args0 about1) = true := by decide +kernel
theorem w_tables : (allAtoms (Jvm.Cond.code x code maxLocals ret :: tables_1)).before args0 about1 = true := by
  rw [allAtoms_all]
  show words1.all (fun c => c.before args0 about1) = true
  refine all_split ?_ w_codes
  rw [← List.take_append_drop 24 words1, List.all_append, w_t1, ← List.take_append_drop 24 (words1.drop 24), List.all_append, w_t2, ← List.take_append_drop 24 ((words1.drop 24).drop 24), List.all_append, w_t3, w_t4]
  rfl
set_option maxRecDepth 65536 in
theorem w_rest : rest_1_c.before args0 about1 = true := by decide +kernel
set_option maxRecDepth 65536 in
theorem w_case : (Jvm.Cond.and given_1 narrow_1).before args0 about1 = true := by decide +kernel
set_option maxRecDepth 65536 in
theorem w_consts : constsHeld consts_1 about1 := Jvm.Lit.constsHeldB_iff.mp (by decide +kernel)
theorem w_applies : (headSpec (Jvm.Cond.code x code maxLocals ret :: tables_1) room_1).applies x e0.platform about1 = true :=
  (Spec.applies_iff w_frames).mpr ⟨w_running, w_runnable, w_alone, w_named, w_hears, w_ripe, w_room, w_tables⟩
theorem atStart : AtStart classFile x code maxLocals ret World_1 tables_1 room_1 Calls_1 rest_1 Pre_1 launch0 p0 e0 about1 theMethod args0 below0 :=
  ⟨lists_1, trivial, launch0.admits_env _ _ _, launch0.least_env, fairChoices_fair.cas, fairChoices_fair.clock, w_frames, w_args, w_heap, w_applies, ⟨w_consts, trivial⟩, w_rest, w_case⟩
end start1
theorem witness_1 : WitnessClaimed_1 := ⟨start1.p0, start1.e0, start1.about1, start1.theMethod, start1.args0, start1.below0, start1.atStart⟩
end Jvm.Pilot.@@N@@
