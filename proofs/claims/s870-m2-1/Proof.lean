import JvmDerived
import JvmDerived.Pilot.@@N@@Statement
import JvmDerived.Pilot.@@N@@Code
set_option linter.unusedVariables false
set_option linter.unusedSimpArgs false
@@BLOCK:NumsL.lean.txt@@
/- laws to paste: Road.backV (cut by pick.py; bodies as the Statement names them) -/
namespace Jvm.Pilot.@@N@@
namespace StrChars
open Jvm Sem ClassFile Op Lib Jvm.Stand Jvm.Free.XT Jvm.Free.ALB Jvm.Free.JM Jvm.Free
open Jvm.Lib.Cold (StaticIs)
/-- a char array whose places are chars -/
def Ch (a : Addr) (A : Cell) (U : State) : Prop := Arr .char a A U ∧ Typed .char A
theorem Ch.mv {a : Addr} {A : Cell} {U U' : State} (h : Ch a A U) (hal : U.vm.Alike U'.vm) (hh : U'.heap = U.heap) : Ch a A U' := ⟨h.1.mv hal hh, h.2⟩
theorem Ch.keep {a : Addr} {A : Cell} {U U' : State} (h : Ch a A U) (hal : U.vm.Alike U'.vm) (hk : U'.heap[a]? = some A) : Ch a A U' := ⟨h.1.keep hal hk, h.2⟩
/-- what place i of a char[]'s cell holds -/
def cv (A : Cell) (i : Nat) : Int32 := match A.slots[i]? with | some (.int x) => x | _ => 0
theorem Ch.get {a : Addr} {A : Cell} {U : State} (h : Ch a A U) {i : Nat} (hi : i < A.slots.size) : A.slots[i]? = some (.int (cv A i)) := by
  have e := Array.getElem?_eq_getElem hi
  have f := h.2 i _ e
  unfold cv; rw [e]
  generalize A.slots[i] = v at f
  cases v <;> simp [fits] at f ⊢
/-- the byte that i2b leaves of a char -/
def lo8 (x : Int32) : Int32 := x.toInt8.toInt32
theorem fits_lo8 (y : Int32) : fits .byte (.int (lo8 y)) = true := by
  have h1 := y.toInt8.le_toInt
  have h2 := y.toInt8.toInt_lt
  simp only [lo8, fits, Bool.and_eq_true, decide_eq_true_eq, Int32.le_iff_toInt_le, Int8.toInt_toInt32, show (-128 : Int32).toInt = -128 from by decide, show (127 : Int32).toInt = 127 from by decide]
  omega
/-- A' is A but that each place j of lo .. hi - 1 holds f j -/
def Laid (A A' : Cell) (lo hi : Nat) (f : Nat → Value) : Prop := A'.cls = A.cls ∧ A'.vm = A.vm ∧ A'.slots.size = A.slots.size ∧ ∀ i, A'.slots[i]? = if lo ≤ i ∧ i < hi then some (f i) else A.slots[i]?
theorem Laid.zero (A : Cell) (lo : Nat) (f : Nat → Value) : Laid A A lo (lo + 0) f := ⟨rfl, rfl, rfl, fun i => by rw [if_neg (by omega)]⟩
theorem Laid.step {A Ak : Cell} {lo k : Nat} {f : Nat → Value} {v : Value} (h : Laid A Ak lo k f) (hlo : lo ≤ k) (hk : k < Ak.slots.size) (hv : v = f k) : Laid A (Ak.setSlot k v) lo (k + 1) f := by
  refine ⟨h.1, h.2.1, by simpa [Cell.setSlot] using h.2.2.1, fun i => ?_⟩
  by_cases e : k = i
  · subst e; rw [Cell.slots_setSlot_self v hk, if_pos (by omega), hv]
  · rw [Cell.slots_setSlot_ne v e, h.2.2.2 i]
    by_cases q : lo ≤ i ∧ i < k
    · rw [if_pos q, if_pos (by omega)]
    · rw [if_neg q, if_neg (by omega)]
def U16 : String := "java/lang/StringUTF16"
namespace Cmp5
def yN : MethodName := ⟨"java/lang/StringUTF16", "compress", "([CI[BII)I"⟩
abbrev yB : ByteArray := jdk_52_method_21_code
theorem d0 : decode yB 0 = .ok (.iconst 0, 1) := by decide +kernel
theorem d1 : decode yB 1 = .ok (.istore 5, 2) := by decide +kernel
theorem d3 : decode yB 3 = .ok (.iload 5, 2) := by decide +kernel
theorem d5 : decode yB 5 = .ok (.iload 4, 2) := by decide +kernel
theorem d7 : decode yB 7 = .ok (.if_icmp (.ge) 37, 3) := by decide +kernel
theorem d10 : decode yB 10 = .ok (.aload_n 0, 1) := by decide +kernel
theorem d11 : decode yB 11 = .ok (.iload_n 1, 1) := by decide +kernel
theorem d12 : decode yB 12 = .ok (.caload, 1) := by decide +kernel
theorem d13 : decode yB 13 = .ok (.istore 6, 2) := by decide +kernel
theorem d15 : decode yB 15 = .ok (.iload 6, 2) := by decide +kernel
theorem d17 : decode yB 17 = .ok (.sipush 255, 3) := by decide +kernel
theorem d20 : decode yB 20 = .ok (.if_icmp (.le) 6, 3) := by decide +kernel
theorem d26 : decode yB 26 = .ok (.aload_n 2, 1) := by decide +kernel
theorem d27 : decode yB 27 = .ok (.iload_n 3, 1) := by decide +kernel
theorem d28 : decode yB 28 = .ok (.iload 6, 2) := by decide +kernel
theorem d30 : decode yB 30 = .ok (.i2b, 1) := by decide +kernel
theorem d31 : decode yB 31 = .ok (.bastore, 1) := by decide +kernel
theorem d32 : decode yB 32 = .ok (.iinc 1 1, 3) := by decide +kernel
theorem d35 : decode yB 35 = .ok (.iinc 3 1, 3) := by decide +kernel
theorem d38 : decode yB 38 = .ok (.iinc 5 1, 3) := by decide +kernel
theorem d41 : decode yB 41 = .ok (.goto (-38), 3) := by decide +kernel
theorem d44 : decode yB 44 = .ok (.iload 4, 2) := by decide +kernel
theorem d46 : decode yB 46 = .ok (.ireturn, 1) := by decide +kernel
def site : List Cond := []
def tab : Cond := tabOf yN yB 7 (some .int) site
def P (b : Addr) (A : Cell) (d : Addr) (B : Cell) (o q len : Nat) (args : Array Value) (s : State) : Prop := args = #[.ref b, .int (Int32.ofNat o), .ref d, .int (Int32.ofNat q), .int (Int32.ofNat len)] ∧ Ch b A s ∧ Arr .byte d B s ∧ b ≠ d ∧ o + len ≤ A.slots.size ∧ q + len ≤ B.slots.size ∧ ∀ i, i < len → ¬ 255 < cv A (o + i)
def E (b : Addr) (A : Cell) (d : Addr) (B : Cell) (o q len : Nat) (r : Option Value) (s u : State) : Prop := r = some (.int (Int32.ofNat len)) ∧ ∃ B', Put d B' s u ∧ Laid B B' q (q + len) (fun j => Value.int (lo8 (cv A (o + (j - q)))))
/-- no char of the range above 255: len; the places written hold each char's low byte -/
theorem law (l : Launch) (b : Addr) (A : Cell) (d : Addr) (B : Cell) (o q len : Nat) : Law l yN 5 5 0 0 yB 7 (some .int) site (P b A d B o q len) (E b A d B o q len) (copyLocs d q len) 0 0 := by
  refine Law.of_walk (plainFor_of_name (by decide +kernel)) (by decide +kernel) (by decide +kernel) (by decide) (fun _ _ h => by rw [h.1]; rfl) (fun _ U U' hal hh h => ⟨h.1, h.2.1.mv hal hh, h.2.2.1.mv hal hh, h.2.2.2⟩) (fun r U U' V V' h1 hal h2 h => ⟨h.1, h.2.elim fun B' q => ⟨B', q.1.mv h1 h2, q.2⟩⟩) ?_
  intro p e s m args below meth c s₁ X0 hexec hbytes hml hret hlk hnm hown hh0 W hP
  obtain ⟨rfl, hA, hB, hne, l1, l2, hp⟩ := hP
  have c1 : Steps p.tables e below (s₁.setTop (entryFrame m #[.ref b, .int (Int32.ofNat o), .ref d, .int (Int32.ofNat q), .int (Int32.ofNat len)] 7)) (s₁.setTop (mkF m 0 #[.val (.ref b), .val (.int (Int32.ofNat o)), .val (.ref d), .val (.int (Int32.ofNat q)), .val (.int (Int32.ofNat len)), .unset, .unset] [])) := entry rfl
  have hA0 := hA.1.mv X0.warmed.alike hh0
  have hB0 := hB.mv X0.warmed.alike hh0
  have a31 := hA.1.2.2.2
  have c2 : Steps p.tables e below (s₁.setTop (entryFrame m #[.ref b, .int (Int32.ofNat o), .ref d, .int (Int32.ofNat q), .int (Int32.ofNat len)] 7)) (s₁.setTop (mkF m 3 #[.val (.ref b), .val (.int (Int32.ofNat o)), .val (.ref d), .val (.int (Int32.ofNat q)), .val (.int (Int32.ofNat len)), .val (.int 0), .unset] [])) := c1.trans (by
    refine iconstV X0.here hexec rfl 0 (hb hbytes d0) (by decide) ?_
    refine XS.istore X0.here hexec rfl (hb hbytes d1) rfl rfl ?_
    exact Steps.refl _)
  have loop : ∀ (r i : Nat), i + r = len → ∀ (z : Slot), (z = .unset ∨ ∃ w, z = .val w ∧ w.category = 1) → ∀ (Tl : State) (Bk : Cell), Stand p l e { frames := 0, locals := 0, cells := 0, slots := 0 } s m #[.ref b, .int (Int32.ofNat o), .ref d, .int (Int32.ofNat q), .int (Int32.ofNat len)] below meth c Tl ([] ++ copyLocs d q i) 0 0 → Put d Bk s₁ Tl → Laid B Bk q (q + i) (fun j => Value.int (lo8 (cv A (o + (j - q))))) →
      Steps p.tables e below (s₁.setTop (entryFrame m #[.ref b, .int (Int32.ofNat o), .ref d, .int (Int32.ofNat q), .int (Int32.ofNat len)] 7)) (Tl.setTop (mkF m 3 #[.val (.ref b), .val (.int (Int32.ofNat (o + i))), .val (.ref d), .val (.int (Int32.ofNat (q + i))), .val (.int (Int32.ofNat len)), .val (.int (Int32.ofNat i)), z] [])) → ∃ (T' : State) (B' : Cell) (z' : Slot), Stand p l e { frames := 0, locals := 0, cells := 0, slots := 0 } s m #[.ref b, .int (Int32.ofNat o), .ref d, .int (Int32.ofNat q), .int (Int32.ofNat len)] below meth c T' ([] ++ copyLocs d q len) 0 0 ∧ Put d B' s₁ T' ∧ Laid B B' q (q + len) (fun j => Value.int (lo8 (cv A (o + (j - q))))) ∧
      Steps p.tables e below (s₁.setTop (entryFrame m #[.ref b, .int (Int32.ofNat o), .ref d, .int (Int32.ofNat q), .int (Int32.ofNat len)] 7)) (T'.setTop (mkF m 3 #[.val (.ref b), .val (.int (Int32.ofNat (o + len))), .val (.ref d), .val (.int (Int32.ofNat (q + len))), .val (.int (Int32.ofNat len)), .val (.int (Int32.ofNat len)), z'] [])) := by
    intro r
    induction r with
    | zero =>
      intro i hi z hz Tl Bk Xl pl fl cl
      have hil : i = len := by omega
      rw [hil] at Xl fl cl
      exact ⟨Tl, Bk, z, Xl, pl, fl, cl⟩
    | succ r ih =>
      intro i hi z hz Tl Bk Xl pl fl cl
      have all := X0.warmed.alike.symm.trans Xl.warmed.alike
      have hAl := hA0.keep all (pl.other hne hA0.1)
      have hBk := hB0.like all pl.1 fl.1 fl.2.1 fl.2.2.1
      have hlt : q + i < Bk.slots.size := by rw [fl.2.2.1]; omega
      have c3 : Steps p.tables e below (s₁.setTop (entryFrame m #[.ref b, .int (Int32.ofNat o), .ref d, .int (Int32.ofNat q), .int (Int32.ofNat len)] 7)) (Tl.setTop (mkF m 12 #[.val (.ref b), .val (.int (Int32.ofNat (o + i))), .val (.ref d), .val (.int (Int32.ofNat (q + i))), .val (.int (Int32.ofNat len)), .val (.int (Int32.ofNat i)), z] [.int (Int32.ofNat (o + i)), .ref b])) := cl.trans (by
        refine XS.iload Xl.here hexec rfl (hb hbytes d3) rfl ?_
        refine XS.iload Xl.here hexec rfl (hb hbytes d5) rfl ?_
        refine XS.icmpNo Xl.here hexec rfl (hb hbytes d7) rfl (ii_ge_f (lt32 (by omega) (by omega))) ?_
        refine XS.aloadN Xl.here hexec rfl (hb hbytes d10) rfl rfl ?_
        refine XS.iloadN Xl.here hexec rfl (hb hbytes d11) rfl ?_
        exact Steps.refl _)
      have c4 : Steps p.tables e below (s₁.setTop (entryFrame m #[.ref b, .int (Int32.ofNat o), .ref d, .int (Int32.ofNat q), .int (Int32.ofNat len)] 7)) (Tl.setTop (mkF m 13 #[.val (.ref b), .val (.int (Int32.ofNat (o + i))), .val (.ref d), .val (.int (Int32.ofNat (q + i))), .val (.int (Int32.ofNat len)), .val (.int (Int32.ofNat i)), z] [.int (cv A (o + i))])) := c3.trans (by
        refine Xl.aget hexec hAl rfl (hA.get (i := o + i) (by omega)) rfl rfl (hb hbytes d12) ?_
        exact Steps.refl _)
      have c5 : Steps p.tables e below (s₁.setTop (entryFrame m #[.ref b, .int (Int32.ofNat o), .ref d, .int (Int32.ofNat q), .int (Int32.ofNat len)] 7)) (Tl.setTop (mkF m 15 #[.val (.ref b), .val (.int (Int32.ofNat (o + i))), .val (.ref d), .val (.int (Int32.ofNat (q + i))), .val (.int (Int32.ofNat len)), .val (.int (Int32.ofNat i)), .val (.int (cv A (o + i)))] [])) := c4.trans (by
        refine XS.istoreS Xl.here hexec rfl (hb hbytes d13) rfl rfl hz ?_
        exact Steps.refl _)
      have c6 : Steps p.tables e below (s₁.setTop (entryFrame m #[.ref b, .int (Int32.ofNat o), .ref d, .int (Int32.ofNat q), .int (Int32.ofNat len)] 7)) (Tl.setTop (mkF m 31 #[.val (.ref b), .val (.int (Int32.ofNat (o + i))), .val (.ref d), .val (.int (Int32.ofNat (q + i))), .val (.int (Int32.ofNat len)), .val (.int (Int32.ofNat i)), .val (.int (cv A (o + i)))] [.int (lo8 (cv A (o + i))), .int (Int32.ofNat (q + i)), .ref d])) := c5.trans (by
        refine XS.iload Xl.here hexec rfl (hb hbytes d15) rfl ?_
        refine sipushV Xl.here hexec rfl 255 (hb hbytes d17) (by decide) ?_
        refine XS.icmpYes Xl.here hexec rfl (pc0 := 20) rfl (hb hbytes d20) rfl (ii_le_t (hp i (by omega))) (by decide) rfl ?_
        refine XS.aloadN Xl.here hexec rfl (hb hbytes d26) rfl rfl ?_
        refine XS.iloadN Xl.here hexec rfl (hb hbytes d27) rfl ?_
        refine XS.iload Xl.here hexec rfl (hb hbytes d28) rfl ?_
        refine i2b Xl.here hexec rfl (hb hbytes d30) rfl ?_
        exact Steps.refl _)
      obtain ⟨T7, X7, p7, st7⟩ := Xl.aput hexec hBk rfl hlt rfl (fits_lo8 (cv A (o + i))) (g := (mkF m 31 #[.val (.ref b), .val (.int (Int32.ofNat (o + i))), .val (.ref d), .val (.int (Int32.ofNat (q + i))), .val (.int (Int32.ofNat len)), .val (.int (Int32.ofNat i)), .val (.int (cv A (o + i)))] [.int (lo8 (cv A (o + i))), .int (Int32.ofNat (q + i)), .ref d])) rfl (rest := []) rfl (hb hbytes d31)
      have c8 : Steps p.tables e below (s₁.setTop (entryFrame m #[.ref b, .int (Int32.ofNat o), .ref d, .int (Int32.ofNat q), .int (Int32.ofNat len)] 7)) (T7.setTop (mkF m 32 #[.val (.ref b), .val (.int (Int32.ofNat (o + i))), .val (.ref d), .val (.int (Int32.ofNat (q + i))), .val (.int (Int32.ofNat len)), .val (.int (Int32.ofNat i)), .val (.int (cv A (o + i)))] [])) := c6.trans (st7 _ (Steps.refl _))
      have c9 : Steps p.tables e below (s₁.setTop (entryFrame m #[.ref b, .int (Int32.ofNat o), .ref d, .int (Int32.ofNat q), .int (Int32.ofNat len)] 7)) (T7.setTop (mkF m 3 #[.val (.ref b), .val (.int (Int32.ofNat (o + i) + 1)), .val (.ref d), .val (.int (Int32.ofNat (q + i) + 1)), .val (.int (Int32.ofNat len)), .val (.int (Int32.ofNat i + 1)), .val (.int (cv A (o + i)))] [])) := c8.trans (by
        refine iincV X7.here hexec rfl 1 (hb hbytes d32) (by decide) rfl rfl ?_
        refine iincV X7.here hexec rfl 1 (hb hbytes d35) (by decide) rfl rfl ?_
        refine iincV X7.here hexec rfl 1 (hb hbytes d38) (by decide) rfl rfl ?_
        refine XS.goto X7.here hexec rfl (pc0 := 41) rfl (hb hbytes d41) (by decide) rfl ?_
        exact Steps.refl _)
      have c10 : Steps p.tables e below (s₁.setTop (entryFrame m #[.ref b, .int (Int32.ofNat o), .ref d, .int (Int32.ofNat q), .int (Int32.ofNat len)] 7)) (T7.setTop (mkF m 3 #[.val (.ref b), .val (.int (Int32.ofNat (o + (i + 1)))), .val (.ref d), .val (.int (Int32.ofNat (q + (i + 1)))), .val (.int (Int32.ofNat len)), .val (.int (Int32.ofNat (i + 1))), .val (.int (cv A (o + i)))] [])) := by
        have := c9
        rw [succ32, succ32, succ32] at this
        exact this
      exact ih (i + 1) (by omega) _ (Or.inr ⟨_, rfl, rfl⟩) T7 _ (by rw [copyLocs_step, ← List.append_assoc]; exact X7) (pl.trans p7) (fl.step (by omega) hlt (by simp)) c10
  obtain ⟨T9, B9, z9, X9, p9, f9, g9⟩ := loop len 0 (by omega) .unset (Or.inl rfl) s₁ B (by simpa [copyLocs] using X0) ⟨hB0.1, fun _ _ => rfl, rfl⟩ (Laid.zero _ _ _) c2
  have c11 : Steps p.tables e below (s₁.setTop (entryFrame m #[.ref b, .int (Int32.ofNat o), .ref d, .int (Int32.ofNat q), .int (Int32.ofNat len)] 7)) (T9.setTop (mkF m 46 #[.val (.ref b), .val (.int (Int32.ofNat (o + len))), .val (.ref d), .val (.int (Int32.ofNat (q + len))), .val (.int (Int32.ofNat len)), .val (.int (Int32.ofNat len)), z9] [.int (Int32.ofNat len)])) := g9.trans (by
    refine XS.iload X9.here hexec rfl (hb hbytes d3) rfl ?_
    refine XS.iload X9.here hexec rfl (hb hbytes d5) rfl ?_
    refine XS.icmpYes X9.here hexec rfl (pc0 := 7) rfl (hb hbytes d7) rfl (ii_ge_t (nlt32 (by omega) (Nat.le_refl _))) (by decide) rfl ?_
    refine XS.iload X9.here hexec rfl (hb hbytes d44) rfl ?_
    exact Steps.refl _)
  exact ⟨T9, some (.int (Int32.ofNat len)), _, _, _, X9, by simp, rfl, rfl, (fun h => by cases h), ⟨rfl, B9, p9.from hh0, f9⟩, fun fs hl => c11.trans (X9.ireturnOut hexec hret rfl (Or.inl rfl) (hb hbytes d46) hl)⟩
end Cmp5
namespace Cmp3
def yN : MethodName := ⟨"java/lang/StringUTF16", "compress", "([CII)[B"⟩
abbrev yB : ByteArray := jdk_52_method_16_code
theorem d0 : decode yB 0 = .ok (.iload_n 2, 1) := by decide +kernel
theorem d1 : decode yB 1 = .ok (.newarray .byte, 2) := by decide +kernel
theorem d3 : decode yB 3 = .ok (.astore_n 3, 1) := by decide +kernel
theorem d4 : decode yB 4 = .ok (.aload_n 0, 1) := by decide +kernel
theorem d5 : decode yB 5 = .ok (.iload_n 1, 1) := by decide +kernel
theorem d6 : decode yB 6 = .ok (.aload_n 3, 1) := by decide +kernel
theorem d7 : decode yB 7 = .ok (.iconst 0, 1) := by decide +kernel
theorem d8 : decode yB 8 = .ok (.iload_n 2, 1) := by decide +kernel
theorem d9 : decode yB 9 = .ok (.invokestatic 115, 3) := by decide +kernel
theorem d12 : decode yB 12 = .ok (.istore 4, 2) := by decide +kernel
theorem d14 : decode yB 14 = .ok (.iload 4, 2) := by decide +kernel
theorem d16 : decode yB 16 = .ok (.iload_n 2, 1) := by decide +kernel
theorem d17 : decode yB 17 = .ok (.if_icmp (.eq) 40, 3) := by decide +kernel
theorem d57 : decode yB 57 = .ok (.aload_n 3, 1) := by decide +kernel
theorem d58 : decode yB 58 = .ok (.areturn, 1) := by decide +kernel
def site : List Cond := [.arrayClass .byte, Cmp5.tab] ++ staticW U16 115 Cmp5.yN
def tab : Cond := tabOf yN yB 6 (some (.array .byte)) site
def P (b : Addr) (A : Cell) (o len : Nat) (args : Array Value) (s : State) : Prop := args = #[.ref b, .int (Int32.ofNat o), .int (Int32.ofNat len)] ∧ Ch b A s ∧ o + len ≤ A.slots.size ∧ len ≤ 536870912 ∧ ∀ i, i < len → ¬ 255 < cv A (o + i)
def E (b : Addr) (A : Cell) (o len : Nat) (r : Option Value) (s u : State) : Prop := NewArr .byte "[B" len (fun j => .int (lo8 (cv A (o + j)))) r s u ∧ u.heap.size = s.heap.size + 1
/-- no char of the range above 255: a new byte[] of their low bytes -/
theorem law (l : Launch) (b : Addr) (A : Cell) (o len : Nat) : Law l yN 3 3 1 18 yB 6 (some (.array .byte)) site (P b A o len) (E b A o len) [] 1 len := by
  refine Law.of_walk (plainFor_of_name (by decide +kernel)) (by decide +kernel) (by decide +kernel) (by decide) (fun _ _ h => by rw [h.1]; rfl) (fun _ U U' hal hh h => ⟨h.1, h.2.1.mv hal hh, h.2.2⟩) (fun r U U' V V' h1 hal h2 h => ⟨NewArr.mv r U U' V V' h1 hal h2 h.1, by rw [h1, h2]; exact h.2⟩) ?_
  intro p e s m args below meth c s₁ X0 hexec hbytes hml hret hlk hnm hown hh0 W hP
  obtain ⟨rfl, hA, l1, l2, hp⟩ := hP
  have a31 := hA.1.2.2.2
  have c1 : Steps p.tables e below (s₁.setTop (entryFrame m #[.ref b, .int (Int32.ofNat o), .int (Int32.ofNat len)] 6)) (s₁.setTop (mkF m 0 #[.val (.ref b), .val (.int (Int32.ofNat o)), .val (.int (Int32.ofNat len)), .unset, .unset, .unset] [])) := entry rfl
  have c2 : Steps p.tables e below (s₁.setTop (entryFrame m #[.ref b, .int (Int32.ofNat o), .int (Int32.ofNat len)] 6)) (s₁.setTop (mkF m 1 #[.val (.ref b), .val (.int (Int32.ofNat o)), .val (.int (Int32.ofNat len)), .unset, .unset, .unset] [.int (Int32.ofNat len)])) := c1.trans (by
    refine XS.iloadN X0.here hexec rfl (hb hbytes d0) rfl ?_
    exact Steps.refl _)
  obtain ⟨T3, B3, X3, ba3, bs3, bv3, bh3, bf3, st3⟩ := X0.anew hexec (atype := .byte) (wk W (.arrayClass .byte)) rfl (by show len * 1 ≤ _; omega) (by omega) (g := (mkF m 1 #[.val (.ref b), .val (.int (Int32.ofNat o)), .val (.int (Int32.ofNat len)), .unset, .unset, .unset] [.int (Int32.ofNat len)])) rfl (hb hbytes d1) (rest := []) rfl (Nat.le_refl _) (by show 0 + len ≤ len; omega)
  rw [hh0] at ba3 st3
  have kp3 : XT.Kept s T3 := (XT.Kept.of_eq hh0).push bh3
  have hA3 := hA.keep X3.warmed.alike (kp3 _ _ hA.1.1)
  have hne : b ≠ s.heap.size := hA.1.ne
  have c4 : Steps p.tables e below (s₁.setTop (entryFrame m #[.ref b, .int (Int32.ofNat o), .int (Int32.ofNat len)] 6)) (T3.setTop (mkF m 3 #[.val (.ref b), .val (.int (Int32.ofNat o)), .val (.int (Int32.ofNat len)), .unset, .unset, .unset] [.ref s.heap.size])) := c2.trans (st3 _ (Steps.refl _))
  have c5 : Steps p.tables e below (s₁.setTop (entryFrame m #[.ref b, .int (Int32.ofNat o), .int (Int32.ofNat len)] 6)) (T3.setTop (mkF m 9 #[.val (.ref b), .val (.int (Int32.ofNat o)), .val (.int (Int32.ofNat len)), .val (.ref s.heap.size), .unset, .unset] [.int (Int32.ofNat len), .int 0, .ref s.heap.size, .int (Int32.ofNat o), .ref b])) := c4.trans (by
    refine XS.astoreN X3.here hexec rfl (hb hbytes d3) rfl rfl rfl ?_
    refine XS.aloadN X3.here hexec rfl (hb hbytes d4) rfl rfl ?_
    refine XS.iloadN X3.here hexec rfl (hb hbytes d5) rfl ?_
    refine XS.aloadN X3.here hexec rfl (hb hbytes d6) rfl rfl ?_
    refine iconstV X3.here hexec rfl 0 (hb hbytes d7) (by decide) ?_
    refine XS.iloadN X3.here hexec rfl (hb hbytes d8) rfl ?_
    exact Steps.refl _)
  obtain ⟨v6, T6, X6, E6, g6⟩ := X3.callS hexec (Cmp5.law l b A s.heap.size B3 o 0 len) hown (wks W (staticW U16 115 Cmp5.yN)) (wk W Cmp5.tab) (W := 0) (Nat.le_of_ble_eq_true rfl) (Nat.le_of_ble_eq_true rfl) (Nat.le_refl _) (by show 0 + len + 0 ≤ len; omega) (g := (mkF m 9 #[.val (.ref b), .val (.int (Int32.ofNat o)), .val (.int (Int32.ofNat len)), .val (.ref s.heap.size), .unset, .unset] [.int (Int32.ofNat len), .int (Int32.ofNat 0), .ref s.heap.size, .int (Int32.ofNat o), .ref b])) rfl (by rw [hml]; rfl) c5 (argsL := [.ref b, .int (Int32.ofNat o), .ref s.heap.size, .int (Int32.ofNat 0), .int (Int32.ofNat len)]) (rest := []) rfl rfl (by show 2 * 0 + 0 ≤ _; decide) (hb hbytes d9) (⟨rfl, hA3, ba3, hne, l1, by rw [bs3]; simp, hp⟩)
  obtain ⟨rfl, B6, p6, f6⟩ := E6
  have c7 : Steps p.tables e below (s₁.setTop (entryFrame m #[.ref b, .int (Int32.ofNat o), .int (Int32.ofNat len)] 6)) (T6.setTop (mkF m 12 #[.val (.ref b), .val (.int (Int32.ofNat o)), .val (.int (Int32.ofNat len)), .val (.ref s.heap.size), .unset, .unset] [.int (Int32.ofNat len)])) := g6
  have c8 : Steps p.tables e below (s₁.setTop (entryFrame m #[.ref b, .int (Int32.ofNat o), .int (Int32.ofNat len)] 6)) (T6.setTop (mkF m 58 #[.val (.ref b), .val (.int (Int32.ofNat o)), .val (.int (Int32.ofNat len)), .val (.ref s.heap.size), .val (.int (Int32.ofNat len)), .unset] [.ref s.heap.size])) := c7.trans (by
    refine XS.istore X6.here hexec rfl (hb hbytes d12) rfl rfl ?_
    refine XS.iload X6.here hexec rfl (hb hbytes d14) rfl ?_
    refine XS.iloadN X6.here hexec rfl (hb hbytes d16) rfl ?_
    refine XS.icmpYes X6.here hexec rfl (pc0 := 17) rfl (hb hbytes d17) rfl (ii_eq_t rfl) (by decide) rfl ?_
    refine XS.aloadN X6.here hexec rfl (hb hbytes d57) rfl rfl ?_
    exact Steps.refl _)
  have X8 := X6.wide (L' := []) (cells' := 1) (slots' := len) (fun x hx hlt => by
    simp only [List.nil_append, copyLocs, List.mem_map, List.mem_range] at hx
    obtain ⟨i, -, rfl⟩ := hx
    exact absurd hlt (Nat.lt_irrefl _)) (Nat.le_refl _) (by omega)
  exact ⟨T6, some (.ref s.heap.size), _, _, _, X8, rfl, rfl, rfl, (fun h => by cases h), ⟨⟨rfl, B6, ba3.like (X3.warmed.alike.symm.trans X6.warmed.alike) p6.1 f6.1 f6.2.1 f6.2.2.1, f6.2.1.trans bv3, by rw [X6.warmed.alike.findClass, f6.1]; exact bf3, by rw [f6.2.2.1, bs3]; simp, fun j hj => by rw [f6.2.2.2 j, if_pos (by omega)]; rfl, kp3.put p6 (Nat.le_refl _)⟩, by rw [p6.2.2, bh3, hh0]; simp⟩, fun fs hl => c8.trans (X8.areturnOut hexec rfl hret rfl (hb hbytes d58) hl)⟩
end Cmp3
namespace CodL
def yN : MethodName := ⟨"java/lang/StringUTF16", "coderFromArrayLen", "([BI)B"⟩
abbrev yB : ByteArray := jdk_52_method_15_code
theorem d0 : decode yB 0 = .ok (.iload_n 1, 1) := by decide +kernel
theorem d1 : decode yB 1 = .ok (.aload_n 0, 1) := by decide +kernel
theorem d2 : decode yB 2 = .ok (.arraylength, 1) := by decide +kernel
theorem d3 : decode yB 3 = .ok (.isub, 1) := by decide +kernel
theorem d4 : decode yB 4 = .ok (.bipush 31, 2) := by decide +kernel
theorem d6 : decode yB 6 = .ok (.iushr, 1) := by decide +kernel
theorem d7 : decode yB 7 = .ok (.i2b, 1) := by decide +kernel
theorem d8 : decode yB 8 = .ok (.ireturn, 1) := by decide +kernel
def site : List Cond := []
def tab : Cond := tabOf yN yB 2 (some .byte) site
def P (d : Addr) (B : Cell) (args : Array Value) (s : State) : Prop := args = #[.ref d, .int (Int32.ofNat B.slots.size)] ∧ Arr .byte d B s
def E (r : Option Value) (s u : State) : Prop := XT.PureE (some (.int 0)) r s u
/-- an array as long as the number of chars: LATIN1 -/
theorem law (l : Launch) (d : Addr) (B : Cell) : Law l yN 2 2 0 0 yB 2 (some .byte) site (P d B) E [] 0 0 := by
  refine Law.of_walk (plainFor_of_name (by decide +kernel)) (by decide +kernel) (by decide +kernel) (by decide) (fun _ _ h => by rw [h.1]; rfl) (fun _ U U' hal hh h => ⟨h.1, h.2.mv hal hh⟩) (fun r U U' V V' h1 hal h2 h => XT.PureE.mv r U U' V V' h1 hal h2 h) ?_
  intro p e s m args below meth c s₁ X0 hexec hbytes hml hret hlk hnm hown hh0 W hP
  obtain ⟨rfl, hB⟩ := hP
  have hB0 := hB.mv X0.warmed.alike hh0
  have c1 : Steps p.tables e below (s₁.setTop (entryFrame m #[.ref d, .int (Int32.ofNat B.slots.size)] 2)) (s₁.setTop (mkF m 0 #[.val (.ref d), .val (.int (Int32.ofNat B.slots.size))] [])) := entry rfl
  have c2 : Steps p.tables e below (s₁.setTop (entryFrame m #[.ref d, .int (Int32.ofNat B.slots.size)] 2)) (s₁.setTop (mkF m 2 #[.val (.ref d), .val (.int (Int32.ofNat B.slots.size))] [.ref d, .int (Int32.ofNat B.slots.size)])) := c1.trans (by
    refine XS.iloadN X0.here hexec rfl (hb hbytes d0) rfl ?_
    refine XS.aloadN X0.here hexec rfl (hb hbytes d1) rfl rfl ?_
    exact Steps.refl _)
  have c3 : Steps p.tables e below (s₁.setTop (entryFrame m #[.ref d, .int (Int32.ofNat B.slots.size)] 2)) (s₁.setTop (mkF m 8 #[.val (.ref d), .val (.int (Int32.ofNat B.slots.size))] [.int (lo8 (ushr (Int32.ofNat B.slots.size - Int32.ofNat B.slots.size) 31))])) := c2.trans (by
    refine X0.alen hexec hB0 rfl rfl (hb hbytes d2) ?_
    refine XS.isub X0.here hexec rfl (hb hbytes d3) rfl ?_
    refine bipushV X0.here hexec rfl 31 (hb hbytes d4) (by decide) ?_
    refine iushr X0.here hexec rfl (hb hbytes d6) rfl ?_
    refine i2b X0.here hexec rfl (hb hbytes d7) rfl ?_
    exact Steps.refl _)
  have e0 : lo8 (ushr (Int32.ofNat B.slots.size - Int32.ofNat B.slots.size) 31) = 0 := by rw [Int32.sub_self]; decide
  rw [e0] at c3
  exact ⟨s₁, some (.int 0), _, _, _, X0, rfl, rfl, rfl, (fun h => by cases h), ⟨rfl, hh0⟩, fun fs hl => c3.trans (X0.ireturnOut hexec hret rfl (Or.inr (Or.inr (Or.inl rfl))) (hb hbytes d8) hl)⟩
end CodL
/-- the String at a is Latin-1 over a new byte[] (the heap's one new cell): the low bytes of the len chars of A from o on; every cell but a is kept -/
def Got (a : Addr) (D : Cell) (fV fC : Field) (A : Cell) (o len : Nat) (r : Option Value) (s u : State) : Prop := r = none ∧ ∃ D' V : Cell, Blank "java/lang/String" a D' u ∧ Same D D' [fV.slot, fC.slot] ∧ D'.slots[fV.slot]? = some (.ref s.heap.size) ∧ D'.slots[fC.slot]? = some (.int 0) ∧ Arr .byte s.heap.size V u ∧ V.vm = .none ∧ u.vm.findClass "[B" = some V.cls ∧ V.slots.size = len ∧ (∀ j, j < len → V.slots[j]? = some (.int (lo8 (cv A (o + j))))) ∧ (∀ (y : Addr) (c : Cell), y ≠ a → s.heap[y]? = some c → u.heap[y]? = some c) ∧ u.heap.size = s.heap.size + 1
theorem Got.mv {a : Addr} {D A : Cell} {fV fC : Field} {o len : Nat} : ∀ r (U U' V V' : State), U'.heap = U.heap → V.vm.Alike V'.vm → V'.heap = V.heap → Got a D fV fC A o len r U V → Got a D fV fC A o len r U' V' :=
  fun r U U' V V' h1 hal h2 ⟨e0, D', X, a1, a2, a3, a4, a5, a6, a7, a8, a9, a10, a11⟩ => ⟨e0, D', X, a1.mv hal h2, a2, by rw [h1]; exact a3, a4, by rw [h1]; exact a5.mv hal h2, a6, by rw [hal.findClass]; exact a7, a8, a9, by rw [h1, h2]; exact a10, by rw [h1, h2]; exact a11⟩
namespace New4
def yN : MethodName := ⟨"java/lang/String", "<init>", "([CIILjava/lang/Void;)V"⟩
abbrev yB : ByteArray := jdk_42_method_149_code
theorem d0 : decode yB 0 = .ok (.aload_n 0, 1) := by decide +kernel
theorem d1 : decode yB 1 = .ok (.invokespecial 1, 3) := by decide +kernel
theorem d4 : decode yB 4 = .ok (.iload_n 3, 1) := by decide +kernel
theorem d5 : decode yB 5 = .ok (.ifCond (.ne) 22, 3) := by decide +kernel
theorem d27 : decode yB 27 = .ok (.getstatic 38, 3) := by decide +kernel
theorem d30 : decode yB 30 = .ok (.ifCond (.eq) 28, 3) := by decide +kernel
theorem d33 : decode yB 33 = .ok (.aload_n 1, 1) := by decide +kernel
theorem d34 : decode yB 34 = .ok (.iload_n 2, 1) := by decide +kernel
theorem d35 : decode yB 35 = .ok (.iload_n 3, 1) := by decide +kernel
theorem d36 : decode yB 36 = .ok (.invokestatic 177, 3) := by decide +kernel
theorem d39 : decode yB 39 = .ok (.astore 5, 2) := by decide +kernel
theorem d41 : decode yB 41 = .ok (.aload_n 0, 1) := by decide +kernel
theorem d42 : decode yB 42 = .ok (.aload 5, 2) := by decide +kernel
theorem d44 : decode yB 44 = .ok (.iload_n 3, 1) := by decide +kernel
theorem d45 : decode yB 45 = .ok (.invokestatic 47, 3) := by decide +kernel
theorem d48 : decode yB 48 = .ok (.putfield 15, 3) := by decide +kernel
theorem d51 : decode yB 51 = .ok (.aload_n 0, 1) := by decide +kernel
theorem d52 : decode yB 52 = .ok (.aload 5, 2) := by decide +kernel
theorem d54 : decode yB 54 = .ok (.putfield 9, 3) := by decide +kernel
theorem d57 : decode yB 57 = .ok (.return_, 1) := by decide +kernel
def site : List Cond := [.fieldLink "java/lang/String" 38 "java/lang/String" "COMPACT_STRINGS" "Z", Cmp3.tab, CodL.tab, .laysFinal "java/lang/String" "java/lang/String" "value" "[B", .fieldLink "java/lang/String" 9 "java/lang/String" "value" "[B", .laysFinal "java/lang/String" "java/lang/String" "coder" "B", .fieldLink "java/lang/String" 15 "java/lang/String" "coder" "B"] ++ objW "java/lang/String" 1 ++ staticW "java/lang/String" 177 Cmp3.yN ++ staticW "java/lang/String" 47 CodL.yN
def tab : Cond := tabOf yN yB 6 none site
def P (a : Addr) (D : Cell) (fV fC : Field) (b : Addr) (A : Cell) (z : Int32) (o len : Nat) (args : Array Value) (s : State) : Prop := args = #[.ref a, .ref b, .int (Int32.ofNat o), .int (Int32.ofNat len), .null] ∧ Blank "java/lang/String" a D s ∧ Found "java/lang/String" "value" "[B" fV s ∧ Found "java/lang/String" "coder" "B" fC s ∧ Ch b A s ∧ StaticIs s "java/lang/String" "COMPACT_STRINGS" "Z" (.int z) ∧ ¬ z = 0 ∧ 0 < len ∧ o + len ≤ A.slots.size ∧ len ≤ 536870912 ∧ ∀ i, i < len → ¬ 255 < cv A (o + i)
def E (a : Addr) (D : Cell) (fV fC : Field) (A : Cell) (o len : Nat) (r : Option Value) (s u : State) : Prop := Got a D fV fC A o len r s u
/-- len > 0, no char of the range above 255: a Latin-1 String of their low bytes -/
theorem law (l : Launch) (a : Addr) (D : Cell) (fV fC : Field) (b : Addr) (A : Cell) (z : Int32) (o len : Nat) : Law l yN 5 4 2 35 yB 6 none site (P a D fV fC b A z o len) (E a D fV fC A o len) [⟨a, fC.slot⟩, ⟨a, fV.slot⟩] 1 len := by
  refine Law.of_walk (plainFor_of_name (by decide +kernel)) (by decide +kernel) (by decide +kernel) (by decide) (fun _ _ h => by rw [h.1]; rfl) (fun _ U U' hal hh h => ⟨h.1, h.2.1.mv hal hh, h.2.2.1.al hal, h.2.2.2.1.al hal, h.2.2.2.2.1.mv hal hh, h.2.2.2.2.2.1.there hal hh, h.2.2.2.2.2.2⟩) (fun r U U' V V' h1 hal h2 h => Got.mv r U U' V V' h1 hal h2 h) ?_
  intro p e s m args below meth c s₁ X0 hexec hbytes hml hret hlk hnm hown hh0 W hP
  obtain ⟨rfl, hB, f1, f2, hA, s1, hz, l0, l1, l2, hp⟩ := hP
  have a31 := hA.1.2.2.2
  have c1 : Steps p.tables e below (s₁.setTop (entryFrame m #[.ref a, .ref b, .int (Int32.ofNat o), .int (Int32.ofNat len), .null] 6)) (s₁.setTop (mkF m 0 #[.val (.ref a), .val (.ref b), .val (.int (Int32.ofNat o)), .val (.int (Int32.ofNat len)), .val .null, .unset] [])) := entry rfl
  have c2 : Steps p.tables e below (s₁.setTop (entryFrame m #[.ref a, .ref b, .int (Int32.ofNat o), .int (Int32.ofNat len), .null] 6)) (s₁.setTop (mkF m 1 #[.val (.ref a), .val (.ref b), .val (.int (Int32.ofNat o)), .val (.int (Int32.ofNat len)), .val .null, .unset] [.ref a])) := c1.trans (by
    refine XS.aloadN X0.here hexec rfl (hb hbytes d0) rfl rfl ?_
    exact Steps.refl _)
  obtain ⟨T3, X3, q3, st3⟩ := X0.oinit hexec hown (wks W (objW "java/lang/String" 1)) (g := (mkF m 1 #[.val (.ref a), .val (.ref b), .val (.int (Int32.ofNat o)), .val (.int (Int32.ofNat len)), .val .null, .unset] [.ref a])) rfl (by rw [hml]; rfl) (rest := []) rfl (hb hbytes d1) (W := 0) (by show 2 * 0 + 0 ≤ _; decide) (Nat.le_of_ble_eq_true rfl) (Nat.le_of_ble_eq_true rfl)
  have hh3 := q3.trans hh0
  have c4 : Steps p.tables e below (s₁.setTop (entryFrame m #[.ref a, .ref b, .int (Int32.ofNat o), .int (Int32.ofNat len), .null] 6)) (T3.setTop (mkF m 27 #[.val (.ref a), .val (.ref b), .val (.int (Int32.ofNat o)), .val (.int (Int32.ofNat len)), .val .null, .unset] [])) := (c2.trans (st3 _ (Steps.refl _))).trans (by
    refine XS.iloadN X3.here hexec rfl (hb hbytes d4) rfl ?_
    refine XS.ifYes X3.here hexec rfl (pc0 := 5) rfl (hb hbytes d5) rfl (i0_ne_t (nz32 (by omega) l0)) (by decide) rfl ?_
    exact Steps.refl _)
  obtain ⟨T5, X5, q5, st5⟩ := X3.sget hexec hown (wk W (.fieldLink "java/lang/String" 38 "java/lang/String" "COMPACT_STRINGS" "Z")) s1 (fun _ _ h => by rw [hh3]; exact h) (g := (mkF m 27 #[.val (.ref a), .val (.ref b), .val (.int (Int32.ofNat o)), .val (.int (Int32.ofNat len)), .val .null, .unset] [])) rfl (hb hbytes d27)
  have hh5 := q5.trans hh3
  have c6 : Steps p.tables e below (s₁.setTop (entryFrame m #[.ref a, .ref b, .int (Int32.ofNat o), .int (Int32.ofNat len), .null] 6)) (T5.setTop (mkF m 30 #[.val (.ref a), .val (.ref b), .val (.int (Int32.ofNat o)), .val (.int (Int32.ofNat len)), .val .null, .unset] [.int z])) := c4.trans (st5 _ (Steps.refl _))
  have c7 : Steps p.tables e below (s₁.setTop (entryFrame m #[.ref a, .ref b, .int (Int32.ofNat o), .int (Int32.ofNat len), .null] 6)) (T5.setTop (mkF m 36 #[.val (.ref a), .val (.ref b), .val (.int (Int32.ofNat o)), .val (.int (Int32.ofNat len)), .val .null, .unset] [.int (Int32.ofNat len), .int (Int32.ofNat o), .ref b])) := c6.trans (by
    refine XS.ifNo X5.here hexec rfl (hb hbytes d30) rfl (i0_eq_f hz) ?_
    refine XS.aloadN X5.here hexec rfl (hb hbytes d33) rfl rfl ?_
    refine XS.iloadN X5.here hexec rfl (hb hbytes d34) rfl ?_
    refine XS.iloadN X5.here hexec rfl (hb hbytes d35) rfl ?_
    exact Steps.refl _)
  obtain ⟨v8, T8, X8, E8, g8⟩ := X5.callS hexec (Cmp3.law l b A o len) hown (wks W (staticW "java/lang/String" 177 Cmp3.yN)) (wk W Cmp3.tab) (W := 0) (Nat.le_of_ble_eq_true rfl) (Nat.le_of_ble_eq_true rfl) (Nat.le_refl _) (by show 0 + len ≤ len; omega) (g := (mkF m 36 #[.val (.ref a), .val (.ref b), .val (.int (Int32.ofNat o)), .val (.int (Int32.ofNat len)), .val .null, .unset] [.int (Int32.ofNat len), .int (Int32.ofNat o), .ref b])) rfl (by rw [hml]; rfl) c7 (argsL := [.ref b, .int (Int32.ofNat o), .int (Int32.ofNat len)]) (rest := []) rfl rfl (by show 2 * 0 + 0 ≤ _; decide) (hb hbytes d36) (⟨rfl, hA.mv X5.warmed.alike hh5, l1, l2, hp⟩)
  obtain ⟨e8, z8⟩ := E8
  obtain ⟨rfl, N, n1, n2, n3, n4, n5, n6⟩ := NewArr.mv _ T5 s _ _ hh5.symm (Vm.Alike.refl _) rfl e8
  rw [hh5] at z8
  have hB1 := hB.keep X8.warmed.alike (n6 _ _ hB.1)
  have hne : s.heap.size ≠ a := (Nat.ne_of_lt (Array.getElem?_eq_some_iff.mp hB.1).1).symm
  have c9 : Steps p.tables e below (s₁.setTop (entryFrame m #[.ref a, .ref b, .int (Int32.ofNat o), .int (Int32.ofNat len), .null] 6)) (T8.setTop (mkF m 39 #[.val (.ref a), .val (.ref b), .val (.int (Int32.ofNat o)), .val (.int (Int32.ofNat len)), .val .null, .unset] [.ref s.heap.size])) := g8
  have c10 : Steps p.tables e below (s₁.setTop (entryFrame m #[.ref a, .ref b, .int (Int32.ofNat o), .int (Int32.ofNat len), .null] 6)) (T8.setTop (mkF m 45 #[.val (.ref a), .val (.ref b), .val (.int (Int32.ofNat o)), .val (.int (Int32.ofNat len)), .val .null, .val (.ref s.heap.size)] [.int (Int32.ofNat N.slots.size), .ref s.heap.size, .ref a])) := by
    have hc : Steps p.tables e below (s₁.setTop (entryFrame m #[.ref a, .ref b, .int (Int32.ofNat o), .int (Int32.ofNat len), .null] 6)) (T8.setTop (mkF m 45 #[.val (.ref a), .val (.ref b), .val (.int (Int32.ofNat o)), .val (.int (Int32.ofNat len)), .val .null, .val (.ref s.heap.size)] [.int (Int32.ofNat len), .ref s.heap.size, .ref a])) := c9.trans (by
      refine XS.astore X8.here hexec rfl (hb hbytes d39) rfl rfl rfl ?_
      refine XS.aloadN X8.here hexec rfl (hb hbytes d41) rfl rfl ?_
      refine XS.aload X8.here hexec rfl (hb hbytes d42) rfl rfl ?_
      refine XS.iloadN X8.here hexec rfl (hb hbytes d44) rfl ?_
      exact Steps.refl _)
    rw [n4]; exact hc
  obtain ⟨v11, T11, X11, E11, g11⟩ := X8.callS hexec (CodL.law l s.heap.size N) hown (wks W (staticW "java/lang/String" 47 CodL.yN)) (wk W CodL.tab) (W := 1) (Nat.le_of_ble_eq_true rfl) (Nat.le_of_ble_eq_true rfl) (Nat.le_refl _) (by show 0 + len + 0 ≤ len; omega) (g := (mkF m 45 #[.val (.ref a), .val (.ref b), .val (.int (Int32.ofNat o)), .val (.int (Int32.ofNat len)), .val .null, .val (.ref s.heap.size)] [.int (Int32.ofNat N.slots.size), .ref s.heap.size, .ref a])) rfl (by rw [hml]; rfl) c10 (argsL := [.ref s.heap.size, .int (Int32.ofNat N.slots.size)]) (rest := [.ref a]) rfl rfl (by show 2 * 0 + (1 + 0) ≤ _; decide) (hb hbytes d45) (⟨rfl, n1⟩)
  obtain ⟨rfl, q11⟩ := E11
  have hB11 := hB1.mv (X8.warmed.alike.symm.trans X11.warmed.alike) q11
  have c12 : Steps p.tables e below (s₁.setTop (entryFrame m #[.ref a, .ref b, .int (Int32.ofNat o), .int (Int32.ofNat len), .null] 6)) (T11.setTop (mkF m 48 #[.val (.ref a), .val (.ref b), .val (.int (Int32.ofNat o)), .val (.int (Int32.ofNat len)), .val .null, .val (.ref s.heap.size)] [.int 0, .ref a])) := g11
  obtain ⟨T13, X13, p13, bl13, sl13, st13⟩ := X11.finit hexec hown (wk W (.fieldLink "java/lang/String" 15 "java/lang/String" "coder" "B")) (Or.inr ⟨_, (wk W (.laysFinal "java/lang/String" "java/lang/String" "coder" "B"))⟩) (Or.inl ⟨rfl, hnm⟩) f2 (Or.inl rfl) hB11 (t := .byte) (by decide +kernel) rfl (g := (mkF m 48 #[.val (.ref a), .val (.ref b), .val (.int (Int32.ofNat o)), .val (.int (Int32.ofNat len)), .val .null, .val (.ref s.heap.size)] [.int 0, .ref a])) rfl (rest := []) rfl (hb hbytes d48)
  have c14 : Steps p.tables e below (s₁.setTop (entryFrame m #[.ref a, .ref b, .int (Int32.ofNat o), .int (Int32.ofNat len), .null] 6)) (T13.setTop (mkF m 54 #[.val (.ref a), .val (.ref b), .val (.int (Int32.ofNat o)), .val (.int (Int32.ofNat len)), .val .null, .val (.ref s.heap.size)] [.ref s.heap.size, .ref a])) := (c12.trans (st13 _ (Steps.refl _))).trans (by
    refine XS.aloadN X13.here hexec rfl (hb hbytes d51) rfl rfl ?_
    refine XS.aload X13.here hexec rfl (hb hbytes d52) rfl rfl ?_
    exact Steps.refl _)
  obtain ⟨T15, X15, p15, bl15, sl15, st15⟩ := X13.finit hexec hown (wk W (.fieldLink "java/lang/String" 9 "java/lang/String" "value" "[B")) (Or.inr ⟨_, (wk W (.laysFinal "java/lang/String" "java/lang/String" "value" "[B"))⟩) (Or.inl ⟨rfl, hnm⟩) f1 (Or.inl rfl) bl13 (t := (.array .byte)) (by decide +kernel) rfl (g := (mkF m 54 #[.val (.ref a), .val (.ref b), .val (.int (Int32.ofNat o)), .val (.int (Int32.ofNat len)), .val .null, .val (.ref s.heap.size)] [.ref s.heap.size, .ref a])) rfl (rest := []) rfl (hb hbytes d54)
  have c16 : Steps p.tables e below (s₁.setTop (entryFrame m #[.ref a, .ref b, .int (Int32.ofNat o), .int (Int32.ofNat len), .null] 6)) (T15.setTop (mkF m 57 #[.val (.ref a), .val (.ref b), .val (.int (Int32.ofNat o)), .val (.int (Int32.ofNat len)), .val .null, .val (.ref s.heap.size)] [])) := c14.trans (st15 _ (Steps.refl _))
  have ap := apart (Or.inr ⟨_, (wk W (.laysFinal "java/lang/String" "java/lang/String" "value" "[B"))⟩) (Or.inr ⟨_, (wk W (.laysFinal "java/lang/String" "java/lang/String" "coder" "B"))⟩) f1 f2 (t₁ := .array .byte) (t₂ := .byte) (by decide +kernel) (by decide +kernel) (by decide)
  have al := X8.warmed.alike.symm.trans X15.warmed.alike
  have n7 : T11.heap[s.heap.size]? = some N := by rw [q11]; exact n1.1
  exact ⟨T15, none, _, _, _, X15, by simp, rfl, by omega, (fun _ => rfl), ⟨rfl, _, N, bl15, ((Same.refl D _).set _ (by simp)).set _ (by simp), sl15, (Cell.slots_setSlot_ne _ ap).trans sl13, n1.keep al (p15.other hne (p13.other hne n7)), n2, by rw [al.findClass]; exact n3, n4, n5, fun y c h1 h2 => p15.other h1 (p13.other h1 (by rw [q11]; exact n6 y c h2)), by rw [p15.2.2, p13.2.2, q11]; exact z8⟩, fun fs hl => c16.trans (X15.returnOut hexec hret (hb hbytes d57) hl)⟩
end New4
namespace New1
def yN : MethodName := ⟨"java/lang/String", "<init>", "([C)V"⟩
abbrev yB : ByteArray := jdk_42_method_3_code
theorem d0 : decode yB 0 = .ok (.aload_n 0, 1) := by decide +kernel
theorem d1 : decode yB 1 = .ok (.aload_n 1, 1) := by decide +kernel
theorem d2 : decode yB 2 = .ok (.iconst 0, 1) := by decide +kernel
theorem d3 : decode yB 3 = .ok (.aload_n 1, 1) := by decide +kernel
theorem d4 : decode yB 4 = .ok (.arraylength, 1) := by decide +kernel
theorem d5 : decode yB 5 = .ok (.aconst_null, 1) := by decide +kernel
theorem d6 : decode yB 6 = .ok (.invokespecial 27, 3) := by decide +kernel
theorem d9 : decode yB 9 = .ok (.return_, 1) := by decide +kernel
def site : List Cond := [New4.tab] ++ initW "java/lang/String" 27 New4.yN
def tab : Cond := tabOf yN yB 2 none site
def P (a : Addr) (D : Cell) (fV fC : Field) (b : Addr) (A : Cell) (z : Int32) (args : Array Value) (s : State) : Prop := args = #[.ref a, .ref b] ∧ Blank "java/lang/String" a D s ∧ Found "java/lang/String" "value" "[B" fV s ∧ Found "java/lang/String" "coder" "B" fC s ∧ Ch b A s ∧ StaticIs s "java/lang/String" "COMPACT_STRINGS" "Z" (.int z) ∧ ¬ z = 0 ∧ 0 < A.slots.size ∧ A.slots.size ≤ 536870912 ∧ ∀ i, i < A.slots.size → ¬ 255 < cv A i
def E (a : Addr) (D : Cell) (fV fC : Field) (A : Cell) (r : Option Value) (s u : State) : Prop := Got a D fV fC A 0 A.slots.size r s u
/-- new String(chars), not empty, no char above 255: a Latin-1 String of their low bytes -/
theorem law (l : Launch) (a : Addr) (D : Cell) (fV fC : Field) (b : Addr) (A : Cell) (z : Int32) : Law l yN 2 1 3 52 yB 2 none site (P a D fV fC b A z) (E a D fV fC A) [⟨a, fC.slot⟩, ⟨a, fV.slot⟩] 1 A.slots.size := by
  refine Law.of_walk (plainFor_of_name (by decide +kernel)) (by decide +kernel) (by decide +kernel) (by decide) (fun _ _ h => by rw [h.1]; rfl) (fun _ U U' hal hh h => ⟨h.1, h.2.1.mv hal hh, h.2.2.1.al hal, h.2.2.2.1.al hal, h.2.2.2.2.1.mv hal hh, h.2.2.2.2.2.1.there hal hh, h.2.2.2.2.2.2⟩) (fun r U U' V V' h1 hal h2 h => Got.mv r U U' V V' h1 hal h2 h) ?_
  intro p e s m args below meth c s₁ X0 hexec hbytes hml hret hlk hnm hown hh0 W hP
  obtain ⟨rfl, hB, f1, f2, hA, s1, hz, l0, l2, hp⟩ := hP
  have c1 : Steps p.tables e below (s₁.setTop (entryFrame m #[.ref a, .ref b] 2)) (s₁.setTop (mkF m 0 #[.val (.ref a), .val (.ref b)] [])) := entry rfl
  have c2 : Steps p.tables e below (s₁.setTop (entryFrame m #[.ref a, .ref b] 2)) (s₁.setTop (mkF m 6 #[.val (.ref a), .val (.ref b)] [.null, .int (Int32.ofNat A.slots.size), .int 0, .ref b, .ref a])) := c1.trans (by
    refine XS.aloadN X0.here hexec rfl (hb hbytes d0) rfl rfl ?_
    refine XS.aloadN X0.here hexec rfl (hb hbytes d1) rfl rfl ?_
    refine iconstV X0.here hexec rfl 0 (hb hbytes d2) (by decide) ?_
    refine XS.aloadN X0.here hexec rfl (hb hbytes d3) rfl rfl ?_
    refine X0.alen hexec (hA.1.mv X0.warmed.alike hh0) rfl rfl (hb hbytes d4) ?_
    refine XS.aconstNull X0.here hexec rfl (hb hbytes d5) ?_
    exact Steps.refl _)
  obtain ⟨v3, T3, X3, E3, g3⟩ := X0.callN hexec (New4.law l a D fV fC b A z 0 A.slots.size) rfl hown (wks W (initW "java/lang/String" 27 New4.yN)) (W New4.tab (by simp only [site, List.mem_cons, List.mem_append, true_or, or_true])) (W := 0) (Nat.le_of_ble_eq_true rfl) (Nat.le_of_ble_eq_true rfl) (Nat.le_refl _) (by show 0 + A.slots.size ≤ A.slots.size; omega) (g := (mkF m 6 #[.val (.ref a), .val (.ref b)] [.null, .int (Int32.ofNat A.slots.size), .int (Int32.ofNat 0), .ref b, .ref a])) rfl (by rw [hml]; rfl) c2 (argsL := [.ref b, .int (Int32.ofNat 0), .int (Int32.ofNat A.slots.size), .null]) (rest := []) rfl rfl (by show 2 * 0 + 0 ≤ _; decide) (hb hbytes d6) (⟨rfl, hB.mv X0.warmed.alike hh0, f1.al X0.warmed.alike, f2.al X0.warmed.alike, hA.mv X0.warmed.alike hh0, s1.there X0.warmed.alike hh0, hz, l0, by omega, l2, fun i hi => by rw [Nat.zero_add]; exact hp i hi⟩)
  have e0 := Got.mv _ s₁ s _ _ hh0.symm (Vm.Alike.refl _) rfl E3
  obtain rfl := e0.1
  have c4 : Steps p.tables e below (s₁.setTop (entryFrame m #[.ref a, .ref b] 2)) (T3.setTop (mkF m 9 #[.val (.ref a), .val (.ref b)] [])) := g3
  exact ⟨T3, none, _, _, _, X3, by simp, rfl, by omega, (fun _ => rfl), e0, fun fs hl => c4.trans (X3.returnOut hexec hret (hb hbytes d9) hl)⟩
theorem pays {l : Launch} {R : Room} {p : Program} {e : Env} {below : List Frame} {s : State} {sargs : Array Value} {len W : Nat} (a : Addr) (D : Cell) (fV fC : Field) (b : Addr) (A : Cell) (z : Int32) (htab : tab.before sargs s = true) (hfr : 4 ≤ R.frames) (hlo : W + 65 ≤ R.locals) :
    Back l R p e below s sargs yN len W (fun A₁ a₁ => A₁.cells + 1 ≤ R.cells ∧ A₁.slots + A.slots.size ≤ R.slots ∧ P a D fV fC b A z a₁ A₁.U) (fun A₁ _ v₁ B₁ => E a D fV fC A v₁ A₁.U B₁.U ∧ B₁.locs = A₁.locs ++ [⟨a, fC.slot⟩, ⟨a, fV.slot⟩] ∧ B₁.cells = A₁.cells + 1 ∧ B₁.slots = A₁.slots + A.slots.size) :=
  (law l a D fV fC b A z).pays htab hfr (by omega)
end New1
end StrChars
namespace StrChars.Road
open Jvm Sem ClassFile Op Lib Jvm.Stand Jvm.Free Jvm.Free.XT
open Jvm.Lib.Cold (StaticIs)
abbrev ST : String := "java/lang/String"
/-- every table word that New1's law asks, flat -/
abbrev words : List Jvm.Cond := [.code New1.yN New1.yB 2 none, .initialized ST, .methodLink ST 27 New4.yN, .instanceMethod New4.yN,
  .code New4.yN New4.yB 6 none, .fieldLink ST 38 ST "COMPACT_STRINGS" "Z", .laysFinal ST ST "value" "[B", .fieldLink ST 9 ST "value" "[B", .laysFinal ST ST "coder" "B", .fieldLink ST 15 ST "coder" "B",
  .methodLink ST 1 Lib.objectInit, .instanceMethod Lib.objectInit, .code Lib.objectInit ⟨#[0xb1]⟩ 1 none, .methodLink ST 177 Cmp3.yN, .static Cmp3.yN, .methodLink ST 47 CodL.yN, .static CodL.yN,
  .code Cmp3.yN Cmp3.yB 6 (some (.array .byte)), .initialized U16, .arrayClass .byte, .methodLink U16 115 Cmp5.yN, .static Cmp5.yN, .code Cmp5.yN Cmp5.yB 7 (some .int), .code CodL.yN CodL.yB 2 (some .byte)]
theorem tab_of {a : Array Value} {s : State} (h : ∀ w ∈ words, w.before a s = true) : New1.tab.before a s = true := by
  have h5 : Cmp5.tab.before a s = true := unparts (wk h (.code Cmp5.yN Cmp5.yB 7 (some .int))) (wks h (.initialized Cmp5.yN.cls :: Cmp5.site))
  have hc : CodL.tab.before a s = true := unparts (wk h (.code CodL.yN CodL.yB 2 (some .byte))) (wks h (.initialized CodL.yN.cls :: CodL.site))
  have q5 : ∀ w ∈ Cmp5.tab :: words, w.before a s = true := fun w hw => (List.mem_cons.mp hw).elim (fun e => e ▸ h5) (h w)
  have h3 : Cmp3.tab.before a s = true := unparts (wk q5 (.code Cmp3.yN Cmp3.yB 6 (some (.array .byte)))) (wks q5 (.initialized Cmp3.yN.cls :: Cmp3.site))
  have q3 : ∀ w ∈ Cmp3.tab :: CodL.tab :: words, w.before a s = true := fun w hw => (List.mem_cons.mp hw).elim (fun e => e ▸ h3) fun hw => (List.mem_cons.mp hw).elim (fun e => e ▸ hc) (h w)
  have h4 : New4.tab.before a s = true := unparts (wk q3 (.code New4.yN New4.yB 6 none)) (wks q3 (.initialized New4.yN.cls :: New4.site))
  have q4 : ∀ w ∈ New4.tab :: words, w.before a s = true := fun w hw => (List.mem_cons.mp hw).elim (fun e => e ▸ h4) (h w)
  exact unparts (wk q4 (.code New1.yN New1.yB 2 none)) (wks q4 (.initialized New1.yN.cls :: New1.site))
/-- the words ride from the start Z to the walk's own state -/
theorem moved {Z s : State} {a0 args : Array Value} (hZ : Z.Warmed39 s.vm) (hw : ∀ d ∈ words, d.before a0 Z = true) : ∀ d ∈ words, d.before args s = true := fun d hd => by
  have q := hw d hd
  have t : ∀ d ∈ words, d = .arrayClass .byte ∨ (d.onTables && d.keepsFace) = true := by decide +kernel
  rcases t d hd with rfl | t
  · exact RoadKit.mvA hZ q
  · exact RoadKit.mv hZ q t
/-- WHAT COMES BACK, over the tables of the start Z: h the heap at the call, h' behind it -/
def Q (Z : State) (x : Addr) (A : Cell) (h : Heap) (v : Option Value) (h' : Heap) (L : List Loc) : Prop := v = none ∧ (∀ y ∈ L, y.base = x) ∧ RoadKit.Keep h h' [x] ∧ h'.size = h.size + 1 ∧ RoadKit.Exa Z h' x ST ∧ RoadKit.Fld Z h' x ST "value" "[B" (.ref h.size) ∧ RoadKit.Fld Z h' x ST "coder" "B" (.int 0) ∧
  (∃ V : Cell, RoadKit.Arr Z h' h.size V .byte ∧ V.vm = .none ∧ Z.vm.findClass "[B" = some V.cls ∧ V.slots.size = A.slots.size ∧ ∀ j, j < A.slots.size → V.slots[j]? = some (.int (lo8 (cv A j)))) ∧
  ∀ (O n d : String) (w : Value), RoadKit.Fld Z h x O n d w → RoadKit.slotOf Z O n d ≠ RoadKit.slotOf Z ST "value" "[B" → RoadKit.slotOf Z O n d ≠ RoadKit.slotOf Z ST "coder" "B" → RoadKit.Fld Z h' x O n d w
/-- **new String(chars) AT A CALL, IN THE ROAD'S FORM**: for specialBack behind newO: x the fresh String, b the char[] with the cell A -/
theorem back {p : Program} {l : Launch} {e : Env} {R : Room} {s : State} {args : Array Value} {below : List Frame} {len W : Nat} {Z : State} {a0 : Array Value} {h : Heap} (hZ : Z.Warmed39 s.vm) (hw : ∀ d ∈ words, d.before a0 Z = true) {kI : Nat} (wi : (Jvm.Cond.instantiable ST kI).before a0 Z = true)
    {x b : Addr} {A : Cell} {z : Int32} {v0 c0 : Value} (E : RoadKit.Exa Z h x ST) (V : RoadKit.Fld Z h x ST "value" "[B" v0) (C : RoadKit.Fld Z h x ST "coder" "B" c0) (K : RoadKit.Arr Z h b A .char) (hty : Typed .char A) (S : RoadKit.Sta Z h ST "COMPACT_STRINGS" "Z" (.int z)) (hz : ¬ z = 0)
    (l0 : 0 < A.slots.size) (l2 : A.slots.size ≤ 536870912) (hp : ∀ i, i < A.slots.size → ¬ 255 < cv A i) (hfr : 4 ≤ R.frames) (hlo : W + 65 ≤ R.locals) :
    Back l R p e below s args New1.yN len W (fun P a => a = #[.ref x, .ref b] ∧ P.U.heap = h ∧ P.cells + 1 ≤ R.cells ∧ P.slots + A.slots.size ≤ R.slots)
      (fun P _ v B => ∃ L, Q Z x A h v B.U.heap L ∧ B.locs = P.locs ++ L ∧ B.cells = P.cells + 1 ∧ B.slots = P.slots + A.slots.size) := by
  intro m meth c P g ig mk a X hg hsize hdg hW hn hp'
  obtain ⟨rfl, rfl, r1, r2⟩ := hp'
  have al : Z.vm.Alike P.U.vm := hZ.alike.trans X.warmed.alike
  obtain ⟨D, cfV, kV, iV, fV, hD, gV, stV, knV, obV, asV, slV⟩ := id V
  obtain ⟨D', cfC, kC, iC, fC, hD', gC, stC, -, -, asC, slC⟩ := id C
  cases hD.symm.trans hD'
  obtain ⟨D2, kD, e1, e2, e3, e4, e5⟩ := id E
  cases hD.symm.trans e1
  obtain ⟨c2, k2, i1, i2, i3, -⟩ := Cond.instantiable_spec wi
  cases e2.symm.trans i1
  cases e3.symm.trans i2
  obtain ⟨kU, u1, u2⟩ := al.2.2 _ _ e3
  have hB : Blank ST x D P.U := ⟨hD, ⟨knV, fun q hq => by rw [hq] at obV; cases obV⟩, by rw [al.findClass]; exact e2, kU, u1, by rw [u2]; exact i3, by rw [u2]; exact e5 i3⟩
  have F1 : Found ST "value" "[B" fV P.U := ⟨SBG.found_only al ⟨cfV, kV, iV, gV⟩, stV⟩
  have F2 : Found ST "coder" "B" fC P.U := ⟨SBG.found_only al ⟨cfC, kC, iC, gC⟩, stC⟩
  have hA : Ch b A P.U := ⟨⟨K.1, State.isArrayOf_alike al K.2.1, K.2.2, by omega⟩, hty⟩
  have hS : StaticIs P.U ST "COMPACT_STRINGS" "Z" (.int z) := by
    obtain ⟨cfS, iS, kS, fS, st, cS, t1, t2, t3, t4, t5, t6, t7⟩ := S
    exact StaticIs.there (s := { Z with heap := P.U.heap }) ⟨cfS, iS, kS, fS, st, cS, t1, t2, t3, t4, t5, (fun q => by rw [q] at t6; cases t6), t7⟩ al rfl
  obtain ⟨v, B, X', ⟨⟨hv, E', V', q1, q2, q3, q4, q5, q6, q7, q8, q9, q10, q11⟩, hl, hc, hs⟩, st⟩ := New1.pays x D fV fC b A z (tab_of (moved hZ hw)) hfr hlo m meth c P g ig mk _ X hg hsize hdg hW hn ⟨r1, r2, rfl, hB, F1, F2, hA, hS, hz, l0, l2, hp⟩
  have al' : Z.vm.Alike B.U.vm := hZ.alike.trans X'.warmed.alike
  have hsz : E'.slots.size = D.slots.size := by
    obtain ⟨-, -, -, kB, w1, w2, w3⟩ := q1
    obtain ⟨kB', y1, y2⟩ := al'.2.2 _ _ e3
    rw [q2.2.1] at w1
    cases w1.symm.trans y1
    rw [w3, e5 i3, y2]
  refine ⟨v, B, X', ⟨_, ⟨hv, ?_, ⟨by omega, fun y cy hy hn' => q10 y cy (by simpa using hn') hy, fun y cy hy => ?_⟩, q11, ⟨E', _, q1.1, by rw [q2.2.1]; exact e2, by rw [q2.2.1]; exact e3, by rw [q2.1]; exact obV, fun _ => by rw [hsz]; exact e5 i3⟩,
    ⟨E', cfV, kV, iV, fV, q1.1, gV, stV, by rw [q2.1]; exact knV, by rw [q2.1]; exact obV, by rw [q2.2.1]; exact asV, q3⟩, ⟨E', cfC, kC, iC, fC, q1.1, gC, stC, by rw [q2.1]; exact knV, by rw [q2.1]; exact obV, by rw [q2.2.1]; exact asC, q4⟩,
    ⟨V', ⟨q5.1, State.isArrayOf_alike al'.symm q5.2.1, q5.2.2.1⟩, q6, by rw [← al'.findClass]; exact q7, q8, fun j hj => by have := q9 j hj; rwa [Nat.zero_add] at this⟩, fun O n d w F n1 n2 => ?_⟩, hl, hc, hs⟩, st⟩
  · intro y hy
    simp only [List.mem_cons, List.not_mem_nil, or_false] at hy
    rcases hy with rfl | rfl <;> rfl
  · by_cases q : y = x
    · subst q
      cases hD.symm.trans hy
      exact ⟨E', q1.1, q2.2.1, q2.1, hsz⟩
    · exact ⟨cy, q10 y cy q hy, rfl, rfl, rfl⟩
  · obtain ⟨D3, cf, k, i, f, g1, g2, g3, g4, g5, g6, g7⟩ := F
    cases hD.symm.trans g1
    simp only [RoadKit.slotOf, g2, gV, gC, Option.map_some, Option.getD_some] at n1 n2
    exact ⟨E', cf, k, i, f, q1.1, g2, g3, by rw [q2.1]; exact g4, by rw [q2.1]; exact g5, by rw [q2.2.1]; exact g6, by rw [q2.2.2 f.slot (by simp [n1, n2])]; exact g7⟩
end StrChars.Road
namespace StrChars.Road
open Jvm Sem ClassFile Op Lib Jvm.Stand Jvm.Free Jvm.Free.XT
/-- WHAT COMES BACK, the byte[] as a list of values -/
def QA (Z : State) (x : Addr) (zn : Int32) (cs : List Int32) (h : Heap) (v : Option Value) (h' : Heap) (L : List Loc) : Prop := v = none ∧ (∀ y ∈ L, y.base = x) ∧ RoadKit.Keep h h' [x] ∧ h'.size = h.size + 1 ∧ RoadKit.Exa Z h' x ST ∧ RoadKit.Fld Z h' x ST "value" "[B" (.ref h.size) ∧ RoadKit.Fld Z h' x ST "coder" "B" (.int 0) ∧
  (∃ kb, Z.vm.findClass "[B" = some kb ∧ RoadKit.Arv Z h' h.size kb .byte zn (cs.map fun c => .int (lo8 c)) (.int 0)) ∧
  ∀ (O n d : String) (w : Value), RoadKit.Fld Z h x O n d w → RoadKit.slotOf Z O n d ≠ RoadKit.slotOf Z ST "value" "[B" → RoadKit.slotOf Z O n d ≠ RoadKit.slotOf Z ST "coder" "B" → RoadKit.Fld Z h' x O n d w
/-- **new String(chars) AT A CALL, THE ARRAYS AS LISTS**: the char[] at b holds cs, not empty, no char above 255 -/
theorem backArv {p : Program} {l : Launch} {e : Env} {R : Room} {s : State} {args : Array Value} {below : List Frame} {len W : Nat} {Z : State} {a0 : Array Value} {h : Heap} (hZ : Z.Warmed39 s.vm) (hw : ∀ d ∈ words, d.before a0 Z = true) {kI : Nat} (wi : (Jvm.Cond.instantiable ST kI).before a0 Z = true)
    {x b : Addr} {k : ClassId} {zn z : Int32} {cs : List Int32} {dv v0 c0 : Value} (E : RoadKit.Exa Z h x ST) (V : RoadKit.Fld Z h x ST "value" "[B" v0) (C : RoadKit.Fld Z h x ST "coder" "B" c0) (K : RoadKit.Arv Z h b k .char zn (cs.map Value.int) dv) (S : RoadKit.Sta Z h ST "COMPACT_STRINGS" "Z" (.int z)) (hz : ¬ z = 0)
    (hlen : zn.toNatClampNeg = cs.length) (h0 : 0 < cs.length) (hbig : cs.length ≤ 536870912) (hall : ∀ c ∈ cs, ¬ 255 < c) (hfr : 4 ≤ R.frames) (hlo : W + 65 ≤ R.locals) :
    Back l R p e below s args New1.yN len W (fun P a => a = #[.ref x, .ref b] ∧ P.U.heap = h ∧ P.cells + 1 ≤ R.cells ∧ P.slots + cs.length ≤ R.slots)
      (fun P _ v B => ∃ L, QA Z x zn cs h v B.U.heap L ∧ B.locs = P.locs ++ L ∧ B.cells = P.cells + 1 ∧ B.slots = P.slots + cs.length) := by
  obtain ⟨A, K1, K2, K3, K4, K5, K6⟩ := K
  have e : A.slots.size = cs.length := K3.trans hlen
  have hat : ∀ (i : Nat) (hi : i < cs.length), A.slots[i]? = some (.int cs[i]) := fun i hi => by rw [K5 i (by omega)]; simp [List.getD_eq_getElem?_getD, hi]
  have hcv : ∀ (i : Nat) (hi : i < cs.length), cv A i = cs[i] := fun i hi => by unfold cv; rw [hat i hi]
  have hty : Typed .char A := fun i v hv => by
    have hi : i < A.slots.size := (Array.getElem?_eq_some_iff.mp hv).1
    have q := K5 i hi
    rw [hv] at q
    rw [Option.some.inj q]
    exact K6 i hi
  refine Back.mono (back hZ hw wi E V C K1 hty S hz (by omega) (by omega) (fun i hi => by rw [hcv i (by omega)]; exact hall _ (List.getElem_mem _)) hfr hlo) (fun P a hp => ⟨hp.1, hp.2.1, hp.2.2.1, by rw [e]; exact hp.2.2.2⟩) (fun P a v B hp hq => ?_)
  obtain ⟨L, ⟨q1, q2, q3, q4, q5, q6, q7, ⟨V', v1, v2, v3, v4, v5⟩, q9⟩, hl, hc, hs⟩ := hq
  refine ⟨L, ⟨q1, q2, q3, q4, q5, q6, q7, ⟨V'.cls, v3, V', v1, rfl, by rw [v4, e, hlen], K4, fun i hi => ?_, fun i hi => ?_⟩, q9⟩, hl, hc, by rw [hs, e]⟩
  · have hi' : i < cs.length := by omega
    rw [v5 i (by omega), hcv i hi']; simp [List.getD_eq_getElem?_getD, hi']
  · have hi' : i < cs.length := by omega
    simp only [List.getD_eq_getElem?_getD, List.getElem?_map, List.getElem?_eq_getElem hi', Option.map_some, Option.getD_some]
    exact fits_lo8 _
end StrChars.Road
namespace StrChars.Road
open Jvm Sem ClassFile Op Lib Jvm.Stand Jvm.Free Jvm.Free.XT
/-- WHAT COMES BACK, in the writer's own shape -/
def QV (Z : State) (x : Addr) (N : Int32) (bs : List Int32) (h : Heap) (n0 : Nat) (v : Option Value) (h' : Heap) (L : List Loc) : Prop := v = none ∧ RoadKit.Fr n0 L ∧ RoadKit.Keep h h' [x] ∧ RoadKit.Exa Z h' x ST ∧ RoadKit.Fld Z h' x ST "coder" "B" (.int 0) ∧
  ∃ (t : Addr) (kb : ClassId), n0 ≤ t ∧ h.size ≤ t ∧ ¬ t = x ∧ RoadKit.Fld Z h' x ST "value" "[B" (.ref t) ∧ RoadKit.Arv Z h' t kb .byte N (bs.map Value.int) (.int 0)
/-- **new String(chars) AT A CALL, FOR THE WRITER**: a char[] of n known ints, each 0 to 255 -/
theorem backV {p : Program} {l : Launch} {e : Env} {R : Room} {s : State} {args : Array Value} {below : List Frame} {len W : Nat} {Z : State} {a0 : Array Value} {h : Heap} (hZ : Z.Warmed39 s.vm) (hw : ∀ d ∈ words, d.before a0 Z = true) {kI : Nat} (wi : (Jvm.Cond.instantiable ST kI).before a0 Z = true)
    {x b : Addr} {kC : ClassId} {cs bs : List Int32} {d v0 c0 : Value} {z N : Int32} {n n0 : Nat} (hx0 : n0 ≤ x) (hh0 : n0 ≤ h.size) (E : RoadKit.Exa Z h x ST) (V : RoadKit.Fld Z h x ST "value" "[B" v0) (C : RoadKit.Fld Z h x ST "coder" "B" c0) (K : RoadKit.Arv Z h b kC .char N (cs.map Value.int) d) (S : RoadKit.Sta Z h ST "COMPACT_STRINGS" "Z" (.int z)) (hz : ¬ z = 0)
    (hn : cs.length = n) (hN : N = Int32.ofNat n) (l0 : 0 < n) (l2 : n ≤ 4000) (hp : ∀ c ∈ cs, ¬ c < 0 ∧ ¬ (255 : Int32) < c) (hb : bs = cs.map (fun c => c.toInt8.toInt32)) (hfr : 4 ≤ R.frames) (hlo : W + 65 ≤ R.locals) :
    Back l R p e below s args (⟨"java/lang/String", "<init>", "([C)V"⟩ : MethodName) len W (fun P a => a = #[.ref x, .ref b] ∧ P.U.heap = h ∧ P.cells + 1 ≤ R.cells ∧ P.slots + n ≤ R.slots)
      (fun P _ v B => ∃ L, QV Z x N bs h n0 v B.U.heap L ∧ B.locs = P.locs ++ L ∧ B.cells = P.cells + 1 ∧ B.slots = P.slots + n) := by
  subst hn hN hb
  refine Back.mono (backArv hZ hw wi E V C K S hz (n32 (by omega)) l0 (by omega) (fun c hc => (hp c hc).2) hfr hlo) (fun P a hp => hp) (fun P a v B hp hq => ?_)
  obtain ⟨L, ⟨q1, q2, q3, q4, q5, q6, q7, ⟨kb, v1, v2⟩, q9⟩, hl, hc, hs⟩ := hq
  exact ⟨L, ⟨q1, fun y hy => by rw [q2 y hy]; exact hx0, q3, q5, q7, h.size, kb, hh0, Nat.le_refl _, Nat.ne_of_gt E.lt, q6, by rw [List.map_map]; exact v2⟩, hl, hc, hs⟩
end StrChars.Road
end Jvm.Pilot.@@N@@
namespace Jvm.RoadKit
open Sem ClassFile Op Lib Jvm.Stand Jvm.Free Jvm.LawKit
section Own
variable {p : Program} {l : Launch} {e : Env} {R : Room} {s : State} {m : MethodId} {args : Array Value} {below : List Frame} {meth : Method} {c : Code} {T : State} {locs : List Loc} {cells slots : Nat} {Z : State} {a0 : Array Value} {h h' h0 : Heap} {ws ws' : List Addr} {Q : Option Value → Heap → List Loc → Prop} {k n : Nat}
/-- the run from U comes to an end of which G speaks -/
def OEnd (p : Program) (e : Env) (below : List Frame) (G : Outcome → State → Prop) (U : State) : Prop := ∃ t o, Steps p.tables e below U t ∧ t.status = .running ∧ Ended t below o ∧ G o t
theorem OEnd.of {G : Outcome → State → Prop} {U U' : State} (q : ∀ t, Steps p.tables e below U' t → Steps p.tables e below U t) (k : OEnd p e below G U') : OEnd p e below G U := by
  obtain ⟨t, o, h1, h2⟩ := k
  exact ⟨t, o, q t h1, h2⟩
/-- a contract's end, nothing interned -/
def GN (s : State) (Q : Option Value → Heap → List Loc → Prop) (k n : Nat) (o : Outcome) (t : State) : Prop := ∃ v L, o = .returned v ∧ Q v t.heap L ∧ FrameEnd s o t L k n
theorem OEnd.out {v : Option Value} {g : JFrame} (X : Stand p l e R s m args below meth c T locs cells slots) (hlk : meth.locks = false) (eT : T.heap = h) (hv : meth.sig.returnType = none → v = none)
    (hs : ∀ fs, (∀ (f : JFrame) (acts : List Action), f.method = m → f.locked = none → f.entered = [] → (doReturn e (T.setTop f) acts v).1 = T.setFrames fs) → Steps p.tables e below (T.setTop g) (T.setFrames fs))
    (hQ : Q v h locs) (hk : cells ≤ k) (hn : slots ≤ n) : OEnd p e below (GN s Q k n) (T.setTop g) := by
  obtain ⟨fs, hr, hrun, hended, hW, hsame⟩ := X.leave (v := v) hv hlk
  exact ⟨_, _, hs fs hr, hrun, hended, v, locs, rfl, (by show Q v T.heap locs; rw [eT]; exact hQ), ⟨v, rfl⟩, hW, hsame.mono hk hn⟩
theorem OEnd.retV {pc : Nat} {Ls : Array Slot} (X : Stand p l e R s m args below meth c T locs cells slots) (hx : p.tables.exec = Jvm.exec) (hlk : meth.locks = false) (eT : T.heap = h) (hret : meth.sig.returnType = none) (hd : decode c.code pc = .ok (.return_, 1))
    (hQ : Q none h locs) (hk : cells ≤ k) (hn : slots ≤ n) : OEnd p e below (GN s Q k n) (T.setTop (mkF m pc Ls [])) :=
  OEnd.out X hlk eT (fun _ => rfl) (fun fs hr => X.returnOut hx hret hd hr) hQ hk hn
theorem OEnd.retN {pc : Nat} {Ls : Array Slot} {z : Int32} {t : FieldType} {rest : List Value} (X : Stand p l e R s m args below meth c T locs cells slots) (hx : p.tables.exec = Jvm.exec) (hlk : meth.locks = false) (eT : T.heap = h) (hret : meth.sig.returnType = some t) (ht : t = .boolean ∨ t = .byte ∨ t = .char ∨ t = .short)
    (hd : decode c.code pc = .ok (.ireturn, 1)) (hQ : Q (some (.int (nar t z))) h locs) (hk : cells ≤ k) (hn : slots ≤ n) : OEnd p e below (GN s Q k n) (T.setTop (mkF m pc Ls (.int z :: rest))) :=
  OEnd.out X hlk eT (fun q => by rw [hret] at q; cases q) (fun fs hr => Jvm.RoadKit.retN X hx hret ht hd hr) hQ hk hn
theorem OEnd.retI {pc : Nat} {Ls : Array Slot} {z : Int32} {rest : List Value} (X : Stand p l e R s m args below meth c T locs cells slots) (hx : p.tables.exec = Jvm.exec) (hlk : meth.locks = false) (eT : T.heap = h) (hret : meth.sig.returnType = some .int)
    (hd : decode c.code pc = .ok (.ireturn, 1)) (hQ : Q (some (.int z)) h locs) (hk : cells ≤ k) (hn : slots ≤ n) : OEnd p e below (GN s Q k n) (T.setTop (mkF m pc Ls (.int z :: rest))) :=
  OEnd.out X hlk eT (fun q => by rw [hret] at q; cases q) (fun fs hr => retOut X hx hret rfl (Or.inl ⟨rfl, Or.inl rfl, z, rfl⟩) hd hr) hQ hk hn
theorem OEnd.retJ {pc : Nat} {Ls : Array Slot} {z : Int64} {rest : List Value} (X : Stand p l e R s m args below meth c T locs cells slots) (hx : p.tables.exec = Jvm.exec) (hlk : meth.locks = false) (eT : T.heap = h) (hret : meth.sig.returnType = some .long)
    (hd : decode c.code pc = .ok (.lreturn, 1)) (hQ : Q (some (.long z)) h locs) (hk : cells ≤ k) (hn : slots ≤ n) : OEnd p e below (GN s Q k n) (T.setTop (mkF m pc Ls (.long z :: rest))) :=
  OEnd.out X hlk eT (fun q => by rw [hret] at q; cases q) (fun fs hr => retOut X hx hret rfl (Or.inr (Or.inl ⟨rfl, rfl, z, rfl⟩)) hd hr) hQ hk hn
theorem own_narRef {t : FieldType} {w : Value} (hw : w.isRef = true) : narrow t w = w := by cases w <;> first | (cases hw; done) | (cases t <;> rfl)
theorem OEnd.retA {pc : Nat} {Ls : Array Slot} {w : Value} {t : FieldType} {rest : List Value} (X : Stand p l e R s m args below meth c T locs cells slots) (hx : p.tables.exec = Jvm.exec) (hlk : meth.locks = false) (eT : T.heap = h) (hret : meth.sig.returnType = some t) (ht : t.isReference = true) (hw : w.isRef = true)
    (hd : decode c.code pc = .ok (.areturn, 1)) (hQ : Q (some w) h locs) (hk : cells ≤ k) (hn : slots ≤ n) : OEnd p e below (GN s Q k n) (T.setTop (mkF m pc Ls (w :: rest))) :=
  OEnd.out X hlk eT (fun q => by rw [hret] at q; cases q) (fun fs hr => retOut X hx hret (own_narRef hw) (Or.inr (Or.inr (Or.inr (Or.inr ⟨rfl, ht, hw⟩)))) hd hr) hQ hk hn
theorem own_stV {P : Value → Prop} {v : Value} (h : v.isRef = true) (h0 : P .null) (h1 : ∀ a, P (.ref a)) : P v := by
  rcases ref_cases h with rfl | ⟨a, rfl⟩
  · exact h0
  · exact h1 a
theorem own_cat {v : Value} (h : v.isRef = true) : v.category = 1 := own_stV (P := fun z => z.category = 1) h rfl (fun _ => rfl)
theorem own_extKeep (O : Ext h0 h) (K : Keep h h' ws) (q : ∀ x ∈ ws, h0.size ≤ x) : Ext h0 h' := ⟨Nat.le_trans O.1 K.1, fun x c r => K.2.1 x c (O.2 x c r) fun z => absurd (Array.getElem?_eq_some_iff.mp r).1 (Nat.not_lt.mpr (q x z))⟩
theorem own_keepMono (K : Keep h h' ws) (q : ∀ x ∈ ws, x ∈ ws') : Keep h h' ws' := ⟨K.1, fun x c r n => K.2.1 x c r (fun z => n (q x z)), K.2.2⟩
theorem own_fitsRef {ty : FieldType} {v : Value} (hv : v.isRef = true) (ht : ty.isReference = true) : fits ty v = true := by cases v <;> first | (cases hv; done) | (cases ty <;> first | (cases ht; done) | rfl)
/-- a private method selects itself (its class can be made, so it is no interface) -/
theorem own_selPriv {y : MethodName} {nn : Nat} (hZ : Z.Warmed39 s.vm) (wi : (Cond.instantiable y.cls nn).before a0 Z = true) (wp : (Cond.privateMethod y).before a0 Z = true) (wm : (Cond.instanceMethod y).before a0 Z = true) (hy : y.cls ≠ "java/lang/invoke/MethodHandle" ∧ y.cls ≠ "java/lang/invoke/VarHandle") : (Cond.selects y.cls y y).before args s = true := by
  have wi' : (Cond.instantiable y.cls nn).before #[] s = true := mv hZ wi
  obtain ⟨cc, kk, h1, h2, -, h3, -⟩ := Cond.instantiable_spec wi'
  exact selects_self_of_private h1 h2 (by simpa using (Bool.or_eq_false_iff.mp h3).1) (Cond.privateMethod_at (mvP hZ wp (args := #[]))) (mvT hZ wm) hy
/-- an object of a class right beneath the root is none of a class K that can be made -/
theorem own_notAssign {C O K : String} {nn : Nat} (w : (Cond.superclass C O).before a0 Z = true) (wo : (Cond.noSuperclass O).before a0 Z = true) (wi : (Cond.instantiable K nn).before a0 Z = true) (h1 : C ≠ K) (h2 : O ≠ K) : ∃ c t, Z.vm.findClass C = some c ∧ Z.vm.findClass K = some t ∧ Z.vm.assignable c t = false := by
  obtain ⟨cc, hc⟩ := found_sup w
  obtain ⟨pp, kk, kp, hp, hk, hkp, hsup, hkind, -, -⟩ := Cond.superclass_spec hc w
  obtain ⟨oo, ko, ho, hko, hnone, -, -⟩ := Cond.noSuperclass_spec wo
  obtain ⟨tt, kt, ht, hkt, hkindt, hif, -⟩ := Cond.instantiable_spec wi
  cases ho.symm.trans hp
  have ne1 := ids_ne hc ht h1
  have ne2 := ids_ne ho ht h2
  have hi : kt.isInterface = false := (Bool.or_eq_false_iff.mp hif).1
  have sb : ∀ f, Z.vm.isSubclassAux f cc tt = false := fun f => by
    match f with
    | 0 => rfl
    | 1 => simp [Vm.isSubclassAux, ne1, hk, hsup]
    | f + 2 => simp [Vm.isSubclassAux, ne1, ne2, hk, hsup, hko, hnone]
  refine ⟨cc, tt, hc, ht, ?_⟩
  show Z.vm.assignableAux (255 + 1) cc tt = false
  simp [Vm.assignableAux, ne1, hk, hkt, hkind, hkindt, hi, Vm.isSubclass, sb]
end Own
end Jvm.RoadKit
namespace Jvm.RoadKit
open Sem ClassFile Op Lib Bundle Jvm.Stand Jvm.Free Jvm.LawKit Jvm.Free.SB Jvm.Free.SBG
section OwnW
variable {p : Program} {l : Launch} {e : Env} {R : Room} {s : State} {m : MethodId} {args : Array Value} {below : List Frame} {meth : Method} {c : Code} {T : State} {locs : List Loc} {cells slots : Nat} {Z : State} {a0 : Array Value} {h h' h0 : Heap} {ws ws' : List Addr} {Q : Option Value → Heap → List Loc → Prop} {k n k0 : Nat} {vm0 vm : Vm} {EL : List (String × Nat)}
/-- a contract's end, constants may have been loaded -/
def GW (s Z : State) (EL : List (String × Nat)) (Q : Option Value → Heap → List Loc → Prop) (k n : Nat) (o : Outcome) (t : State) : Prop := ∃ v L, o = .returned v ∧ Q v t.heap L ∧ CHr Z EL s.vm s.heap t.vm t.heap ∧ ReturnedEndW s o t L k n
theorem OEnd.outW {v : Option Value} {g : JFrame} (X : Stand p l e R (s.setVm vm0) m args below meth c T locs cells slots) (hlk : meth.locks = false) (eT : T.heap = h) (hh : s.heap = h0) (hS : s.Since vm0 k0) (hk0 : k0 ≤ h.size) (hEL : EW Z a0 EL) (hZ : Z.Warmed39 vm0) (HR : CHr Z EL s.vm h0 vm0 h) (hv : meth.sig.returnType = none → v = none)
    (hs : ∀ fs, (∀ (f : JFrame) (acts : List Action), f.method = m → f.locked = none → f.entered = [] → (doReturn e (T.setTop f) acts v).1 = T.setFrames fs) → Steps p.tables e below (T.setTop g) (T.setFrames fs))
    (hQ : Q v h locs) (hk : cells ≤ k) (hn : slots ≤ n) : OEnd p e below (GW s Z EL Q k n) (T.setTop g) := by
  obtain ⟨fs, hr, hrun, hended, hv', hW, hB, hsame⟩ := X.leaveW hS (by rw [eT]; exact hk0) (v := v) hv hlk
  refine ⟨_, _, hs fs hr, hrun, hended, v, locs, rfl, (by show Q v T.heap locs; rw [eT]; exact hQ), ?_, hv', hW, hB, hsame.mono hk hn⟩
  show CHr Z EL s.vm s.heap T.vm T.heap
  rw [eT, hh]
  exact HR.trans (CHv.at X hZ hEL HR.1)
theorem OEnd.retVW {pc : Nat} {Ls : Array Slot} (X : Stand p l e R (s.setVm vm0) m args below meth c T locs cells slots) (hx : p.tables.exec = Jvm.exec) (hlk : meth.locks = false) (eT : T.heap = h) (hh : s.heap = h0) (hS : s.Since vm0 k0) (hk0 : k0 ≤ h.size) (hEL : EW Z a0 EL) (hZ : Z.Warmed39 vm0) (HR : CHr Z EL s.vm h0 vm0 h) (hret : meth.sig.returnType = none) (hd : decode c.code pc = .ok (.return_, 1))
    (hQ : Q none h locs) (hk : cells ≤ k) (hn : slots ≤ n) : OEnd p e below (GW s Z EL Q k n) (T.setTop (mkF m pc Ls [])) :=
  OEnd.outW X hlk eT hh hS hk0 hEL hZ HR (fun _ => rfl) (fun fs hr => X.returnOut hx hret hd hr) hQ hk hn
theorem OEnd.retNW {pc : Nat} {Ls : Array Slot} {z : Int32} {t : FieldType} {rest : List Value} (X : Stand p l e R (s.setVm vm0) m args below meth c T locs cells slots) (hx : p.tables.exec = Jvm.exec) (hlk : meth.locks = false) (eT : T.heap = h) (hh : s.heap = h0) (hS : s.Since vm0 k0) (hk0 : k0 ≤ h.size) (hEL : EW Z a0 EL) (hZ : Z.Warmed39 vm0) (HR : CHr Z EL s.vm h0 vm0 h) (hret : meth.sig.returnType = some t) (ht : t = .boolean ∨ t = .byte ∨ t = .char ∨ t = .short)
    (hd : decode c.code pc = .ok (.ireturn, 1)) (hQ : Q (some (.int (nar t z))) h locs) (hk : cells ≤ k) (hn : slots ≤ n) : OEnd p e below (GW s Z EL Q k n) (T.setTop (mkF m pc Ls (.int z :: rest))) :=
  OEnd.outW X hlk eT hh hS hk0 hEL hZ HR (fun q => by rw [hret] at q; cases q) (fun fs hr => Jvm.RoadKit.retN X hx hret ht hd hr) hQ hk hn
theorem OEnd.retIW {pc : Nat} {Ls : Array Slot} {z : Int32} {rest : List Value} (X : Stand p l e R (s.setVm vm0) m args below meth c T locs cells slots) (hx : p.tables.exec = Jvm.exec) (hlk : meth.locks = false) (eT : T.heap = h) (hh : s.heap = h0) (hS : s.Since vm0 k0) (hk0 : k0 ≤ h.size) (hEL : EW Z a0 EL) (hZ : Z.Warmed39 vm0) (HR : CHr Z EL s.vm h0 vm0 h) (hret : meth.sig.returnType = some .int)
    (hd : decode c.code pc = .ok (.ireturn, 1)) (hQ : Q (some (.int z)) h locs) (hk : cells ≤ k) (hn : slots ≤ n) : OEnd p e below (GW s Z EL Q k n) (T.setTop (mkF m pc Ls (.int z :: rest))) :=
  OEnd.outW X hlk eT hh hS hk0 hEL hZ HR (fun q => by rw [hret] at q; cases q) (fun fs hr => retOut X hx hret rfl (Or.inl ⟨rfl, Or.inl rfl, z, rfl⟩) hd hr) hQ hk hn
theorem OEnd.retAW {pc : Nat} {Ls : Array Slot} {w : Value} {t : FieldType} {rest : List Value} (X : Stand p l e R (s.setVm vm0) m args below meth c T locs cells slots) (hx : p.tables.exec = Jvm.exec) (hlk : meth.locks = false) (eT : T.heap = h) (hh : s.heap = h0) (hS : s.Since vm0 k0) (hk0 : k0 ≤ h.size) (hEL : EW Z a0 EL) (hZ : Z.Warmed39 vm0) (HR : CHr Z EL s.vm h0 vm0 h) (hret : meth.sig.returnType = some t) (ht : t.isReference = true) (hw : w.isRef = true)
    (hd : decode c.code pc = .ok (.areturn, 1)) (hQ : Q (some w) h locs) (hk : cells ≤ k) (hn : slots ≤ n) : OEnd p e below (GW s Z EL Q k n) (T.setTop (mkF m pc Ls (w :: rest))) :=
  OEnd.outW X hlk eT hh hS hk0 hEL hZ HR (fun q => by rw [hret] at q; cases q) (fun fs hr => retOut X hx hret (own_narRef hw) (Or.inr (Or.inr (Or.inr (Or.inr ⟨rfl, ht, hw⟩)))) hd hr) hQ hk hn
/-- a String whose bytes aren't laid yet is no booked constant -/
theorem own_safeNull {x : Addr} (hal : Z.vm.Alike vm) (E : Exa Z h x "java/lang/String") (F : Fld Z h x "java/lang/String" "value" "[B" .null) : Safe Z EL vm h x := fun B => by
  obtain ⟨p, -, u, a, -, q, -, ⟨cS, ⟨⟨s1, s2, s3, ⟨cv, kv, iv, s4, s4'⟩, -, s6, -, s8, -, s10, ⟨hst, kB, hkB, comp, hkindB⟩, -⟩, -, -⟩, ⟨kS, g1, g2, -⟩, hB, -⟩, rfl | rfl⟩ := B
  · obtain ⟨cell, cf, k, i, f, f1, f2, -, -, -, -, f7⟩ := F
    cases (show h[q.sa]? = some q.sC from s1).symm.trans f1
    obtain ⟨kv', z4⟩ := ff_back (Z := Z) (U := Wst Z vm h) hal s4
    have z4' : Z.fieldFound? "java/lang/String" "value" "[B" = some (cv, kv', iv, q.fSV) := z4
    rw [f2] at z4'
    cases z4'
    rw [show q.sC.slots[q.fSV.slot]? = some (.ref q.sd) from s8] at f7
    cases f7
  · obtain ⟨cell, k, e1, e2, e3, -⟩ := E
    cases (show h[q.sd]? = some q.SA from s10).symm.trans e1
    have hB' : Z.vm.findClass "[B" = some q.SA.cls := by rw [← hal.findClass]; exact hB
    exact ids_ne (Z := Z) e2 hB' (by decide) rfl
theorem own_safeArv {x : Addr} {kk : ClassId} {ty : FieldType} {z : Int32} {vs : List Value} {d : Value} (hal : Z.vm.Alike vm) (A : Arv Z h x kk ty z vs d) (ht : ty ≠ .byte) : Safe Z EL vm h x := by
  obtain ⟨cl, A1, -⟩ := A
  exact Safe.arr hal A1 ht
end OwnW
end Jvm.RoadKit
namespace Jvm.RoadKit
open Sem ClassFile Op Lib Jvm.Stand Jvm.Free Jvm.LawKit
/-- a String of these chars, each 0 to 255 -/
def IsStr (Z : State) (h : Heap) (a : Addr) (cs : List Int32) : Prop := Exa Z h a "java/lang/String" ∧ Fld Z h a "java/lang/String" "coder" "B" (.int 0) ∧
  (∃ (t : Addr) (kb : ClassId), Fld Z h a "java/lang/String" "value" "[B" (.ref t) ∧ Arv Z h t kb .byte (Int32.ofNat cs.length) ((cs.map fun c => c.toInt8.toInt32).map Value.int) (.int 0)) ∧ (∀ c ∈ cs, ¬ c < 0 ∧ ¬ (255 : Int32) < c) ∧ cs.length ≤ 4000
theorem IsStr.keep {Z : State} {h h' : Heap} {a : Addr} {cs : List Int32} (S : IsStr Z h a cs) (K : Keep h h' []) : IsStr Z h' a cs := by
  obtain ⟨E, C, ⟨t, kb, V, A⟩, r⟩ := S
  exact ⟨E.keep K, C.keep K nin0, ⟨t, kb, V.keep K nin0, A.keep K nin0⟩, r⟩
/-- a cell that is no String and no array -/
def Apart (Z : State) (h : Heap) (x : Addr) : Prop := (∀ a, Exa Z h a "java/lang/String" → x ≠ a) ∧ ∀ (b : Addr) (k : ClassId) (ty : FieldType) (z : Int32) (vs : List Value) (d : Value), Arv Z h b k ty z vs d → x ≠ b
theorem own_apart {Z : State} {a0 : Array Value} {h : Heap} {x : Addr} {C : String} {n : Nat} (E : Exa Z h x C) (w : (Cond.instantiable C n).before a0 Z = true) (hn : C ≠ "java/lang/String") : Apart Z h x := ⟨fun _ F => Exa.ne E F hn, fun _ _ _ _ _ _ F => Exa.neArv E F w⟩
theorem IsStr.keepA {Z : State} {h h' : Heap} {a : Addr} {cs : List Int32} {ws : List Addr} (S : IsStr Z h a cs) (K : Keep h h' ws) (q : ∀ x ∈ ws, Apart Z h x) : IsStr Z h' a cs := by
  obtain ⟨E, C, ⟨t, kb, V, A⟩, r⟩ := S
  have n1 : a ∉ ws := fun z => (q a z).1 a E rfl
  have n2 : t ∉ ws := fun z => (q t z).2 t _ _ _ _ _ A rfl
  exact ⟨E.keep K, C.keep K n1, ⟨t, kb, V.keep K n1, A.keep K n2⟩, r⟩
theorem IsStr.lt {Z : State} {h : Heap} {a : Addr} {cs : List Int32} (S : IsStr Z h a cs) : a < h.size := S.1.lt
theorem own_ch {x y : Int32} (q : (x &&& 255).toUInt32.toUInt16.toUInt32.toInt32 = y) : ¬ y < 0 ∧ ¬ (255 : Int32) < y := by
  rw [i2c_mask] at q
  subst q
  have e : (x &&& 255).toInt = x.toInt % 256 := Jvm.Kit.i32_mask x 255 (k := 8) (by decide) (by decide)
  have z : (0 : Int32).toInt = 0 := rfl
  have m : (255 : Int32).toInt = 255 := rfl
  exact ⟨fun q => by have := Int32.lt_iff_toInt_lt.mp q; omega, fun q => by have := Int32.lt_iff_toInt_lt.mp q; omega⟩
theorem own_narC {y : Int32} (h : ¬ y < 0 ∧ ¬ (255 : Int32) < y) : nar .char y = y := by
  have z : (0 : Int32).toInt = 0 := rfl
  have m : (255 : Int32).toInt = 255 := rfl
  have h1 : 0 ≤ y.toInt := by have := mt Int32.lt_iff_toInt_lt.mpr h.1; omega
  have h2 : y.toInt ≤ 255 := by have := mt Int32.lt_iff_toInt_lt.mpr h.2; omega
  have e : y &&& 255 = y := Int32.toInt_inj.mp (by
    rw [Jvm.Kit.i32_mask y 255 (k := 8) (by decide) (by decide)]
    omega)
  have q := i2c_mask y
  rw [e] at q
  exact q
theorem own_nar8 (x : Int32) : nar .byte x.toInt8.toInt32 = x.toInt8.toInt32 := by
  show x.toInt8.toInt32.toInt8.toInt32 = _
  simp
theorem own_up {cs : List Int32} (h : ∀ c ∈ cs, ¬ c < 0 ∧ ¬ (255 : Int32) < c) : ∀ c ∈ cs, ¬ c < 0 ∧ ¬ (65535 : Int32) < c := fun c hc => ⟨(h c hc).1, fun q => (h c hc).2 (Int32.lt_trans (by decide) q)⟩
theorem own_eqv {v : Option Value} {P : Prop} (h : (v = some (.int 1) ∧ P) ∨ (v = some (.int 0) ∧ ¬ P)) : ∃ bb : Int32, v = some (.int bb) ∧ ((bb = 1 ∧ P) ∨ (bb = 0 ∧ ¬ P)) := by
  rcases h with ⟨h, p⟩ | ⟨h, p⟩
  · exact ⟨1, h, Or.inl ⟨rfl, p⟩⟩
  · exact ⟨0, h, Or.inr ⟨rfl, p⟩⟩
theorem own_same {b e : Int32} {P : Prop} (h1 : (b = 1 ∧ P) ∨ (b = 0 ∧ ¬ P)) (h2 : (e = 1 ∧ P) ∨ (e = 0 ∧ ¬ P)) : b = e := by
  rcases h1 with ⟨rfl, p⟩ | ⟨rfl, p⟩
  · rcases h2 with ⟨rfl, q⟩ | ⟨rfl, q⟩
    · rfl
    · exact absurd p q
  · rcases h2 with ⟨rfl, q⟩ | ⟨rfl, q⟩
    · exact absurd q p
    · rfl
end Jvm.RoadKit
namespace Jvm.Pilot.@@N@@
open Jvm Jvm.ClassFile Sem Op Lib Jvm.Free Jvm.Stand Jvm.LawKit Jvm.RoadKit Bundle Jvm.Pilot.@@N@@.Jvm.D
abbrev EL : List (String × Nat) := [("java/lang/String", 7)]
theorem own_strAtoms : ∀ d ∈ Bundle.stringAtoms, d ∈ tables_1 := by decide +kernel
theorem own_strWords : ∀ d ∈ StrChars.Road.words, d ∈ tables_1 := by decide +kernel
theorem d9_0 : decode jdk_30_method_1_code 0 = .ok (.aload_n 0, 1) := by decide +kernel
theorem d9_1 : decode jdk_30_method_1_code 1 = .ok (.invokespecial 1, 3) := by decide +kernel
theorem d9_4 : decode jdk_30_method_1_code 4 = .ok (.return_, 1) := by decide +kernel
theorem pn_java_lang_Record : plainName "java/lang/Record" = true := by first | (simp [plainName, overriddenIn]; done) | decide +kernel
abbrev RMrmRec : Room := { frames := 1, cells := 0, slots := 0, locals := 12 }
theorem ef_rmRec (m : MethodId) (a1 : Addr) : entryFrame m #[(.ref a1)] 1 = mkF m 0 #[.val (.ref a1)] [] := by first | (simp [entryFrame, mkF, argsToLocals, Value.category]; done) | rfl
def QrmRec (Z : State) (zc : Int32) (ko : Addr) (a1 : Addr) (h0 : Heap) (v : Option Value) (h : Heap) (L : List Loc) : Prop := v = none ∧ Fr Z.heap.size L ∧ h = h0
set_option maxRecDepth 65536 in
set_option maxHeartbeats 40000000 in
theorem rmRec (l : Launch) (Z : State) (a0 : Array Value) (hw : ∀ d ∈ tables_1, d.before a0 Z = true) (zc : Int32) (ko : Addr) (S_CS : Sta Z Z.heap "java/lang/String" "COMPACT_STRINGS" "Z" (.int zc)) (hzc : ¬ zc = 0) (S_FAILED : Sta Z Z.heap "com/example/holdfast/holdfast/provider/ProviderAnswer$Outcome" "FAILED" "Lcom/example/holdfast/holdfast/provider/ProviderAnswer$Outcome;" (.ref ko)) (ws : List Jvm.Cond) (a1 : Addr) (h0 : Heap) (O0 : Ext Z.heap h0) :
    MetFree l (⟨"java/lang/Record", "<init>", "()V"⟩ : MethodName) (head1 (Jvm.Cond.code (⟨"java/lang/Record", "<init>", "()V"⟩ : MethodName) jdk_30_method_1_code 1 none :: ws) RMrmRec) (fun a U => a = #[(.ref a1)] ∧ Z.Warmed39 U.vm ∧ U.heap = h0) (fun _ _ _ _ _ => True) (fun _ U o U' => ∃ v L, o = .returned v ∧ QrmRec Z zc ko a1 h0 v U'.heap L ∧ FrameEnd U o U' L RMrmRec.cells RMrmRec.slots) := by
  refine MetFree.of_bodySF (plainFor_of_name pn_java_lang_Record) hisR ?_
  intro p e s m args below meth c s₁ Bd hml0 hP hK
  obtain ⟨rfl, hZ, hh⟩ := hP
  have hx := Bd.exec
  have hby := Bd.bytes
  have hlk : meth.locks = false := BodyLoose.notSynchronized Bd
  have hret := Bd.returns
  have hml : c.maxLocals = 1 := hml0
  have hown : s.vm.findClass "java/lang/Record" = some m.cls := findClass_of_methodNamed Bd.named
  have hnm := (name_of_methodNamed Bd.named Bd.method).1
  have X0 : Stand p l e RMrmRec s m #[(.ref a1)] below meth c s₁ [] 0 0 := Stand.of_body Bd
  have e0 : s₁.heap = h0 := by rw [← hh, Bd.state]; rfl
  have N0 := Fr.nil Z.heap.size
  show OEnd p e below (GN s (QrmRec Z zc ko a1 h0) RMrmRec.cells RMrmRec.slots) _
  refine OEnd.of (fun t k => castTop (ef_rmRec m a1) k) ?_
  refine OEnd.of (fun t k => XS.aloadN X0.here hx rfl (hb hby d9_0) rfl rfl k) ?_
  show OEnd p e below _ (s₁.setTop (mkF m 1 #[.val (.ref a1)] [(.ref a1)]))
  obtain ⟨T1, X1, e1, st1⟩ := initO X0 hx hZ hown (hw _ (List.mem_of_getElem? (i := 47) rfl)) (hw _ (List.mem_of_getElem? (i := 12) rfl)) (hw _ (List.mem_of_getElem? (i := 13) rfl)) e0 (g := (mkF m 1 #[.val (.ref a1)] [(.ref a1)])) rfl (by rw [hml]; rfl) rfl (hb hby d9_1) (by decide) (W := 0) (by show 2 * 0 + _ ≤ _; exact Nat.le_of_eq rfl) (by decide)
  refine OEnd.of st1 ?_
  show OEnd p e below _ (T1.setTop (mkF m 4 #[.val (.ref a1)] []))
  exact OEnd.retV X1 hx hlk e1 hret (hb hby d9_4) ⟨rfl, N0, rfl⟩ (by decide) (by decide)
theorem pd_2829V : parseMethodDescriptor "()V" = some ⟨[], none⟩ := by decide +kernel
theorem d8_0 : decode prog_12_method_1_code 0 = .ok (.aload_n 0, 1) := by decide +kernel
theorem d8_1 : decode prog_12_method_1_code 1 = .ok (.invokespecial 1, 3) := by decide +kernel
theorem d8_4 : decode prog_12_method_1_code 4 = .ok (.aload_n 0, 1) := by decide +kernel
theorem d8_5 : decode prog_12_method_1_code 5 = .ok (.aload_n 1, 1) := by decide +kernel
theorem d8_6 : decode prog_12_method_1_code 6 = .ok (.putfield 7, 3) := by decide +kernel
theorem d8_9 : decode prog_12_method_1_code 9 = .ok (.aload_n 0, 1) := by decide +kernel
theorem d8_10 : decode prog_12_method_1_code 10 = .ok (.aload_n 2, 1) := by decide +kernel
theorem d8_11 : decode prog_12_method_1_code 11 = .ok (.putfield 13, 3) := by decide +kernel
theorem d8_14 : decode prog_12_method_1_code 14 = .ok (.aload_n 0, 1) := by decide +kernel
theorem d8_15 : decode prog_12_method_1_code 15 = .ok (.aload_n 3, 1) := by decide +kernel
theorem d8_16 : decode prog_12_method_1_code 16 = .ok (.putfield 17, 3) := by decide +kernel
theorem d8_19 : decode prog_12_method_1_code 19 = .ok (.return_, 1) := by decide +kernel
theorem pn_com_example_holdfast_holdfast_provider_ProviderAnswer : plainName "com/example/holdfast/holdfast/provider/ProviderAnswer" = true := by first | (simp [plainName, overriddenIn]; done) | decide +kernel
abbrev RMrmPAi : Room := { frames := 2, cells := 0, slots := 0, locals := 24 }
theorem ef_rmPAi (m : MethodId) (a1 : Addr) (a2 : Addr) (dv : Value) (h_dv : dv.isRef = true) : entryFrame m #[(.ref a1), (.ref a2), .null, dv] 4 = mkF m 0 #[.val (.ref a1), .val (.ref a2), .val .null, .val dv] [] := by rcases ref_cases h_dv with rfl | ⟨_, rfl⟩ <;> first | (simp [entryFrame, mkF, argsToLocals, Value.category]; done) | rfl
def QrmPAi (Z : State) (zc : Int32) (ko : Addr) (a1 : Addr) (a2 : Addr) (dv : Value) (h0 : Heap) (v : Option Value) (h : Heap) (L : List Loc) : Prop := v = none ∧ Fr Z.heap.size L ∧ Keep h0 h [a1] ∧ Exa Z h a1 "com/example/holdfast/holdfast/provider/ProviderAnswer" ∧ Fld Z h a1 "com/example/holdfast/holdfast/provider/ProviderAnswer" "outcome" "Lcom/example/holdfast/holdfast/provider/ProviderAnswer$Outcome;" (.ref a2) ∧ Fld Z h a1 "com/example/holdfast/holdfast/provider/ProviderAnswer" "id" "Ljava/lang/String;" .null ∧ Fld Z h a1 "com/example/holdfast/holdfast/provider/ProviderAnswer" "detail" "Ljava/lang/String;" dv
set_option maxRecDepth 65536 in
set_option maxHeartbeats 40000000 in
theorem rmPAi (l : Launch) (Z : State) (a0 : Array Value) (hw : ∀ d ∈ tables_1, d.before a0 Z = true) (zc : Int32) (ko : Addr) (S_CS : Sta Z Z.heap "java/lang/String" "COMPACT_STRINGS" "Z" (.int zc)) (hzc : ¬ zc = 0) (S_FAILED : Sta Z Z.heap "com/example/holdfast/holdfast/provider/ProviderAnswer$Outcome" "FAILED" "Lcom/example/holdfast/holdfast/provider/ProviderAnswer$Outcome;" (.ref ko)) (ws : List Jvm.Cond) (a1 : Addr) (a2 : Addr) (dv : Value) (h0 : Heap) (O0 : Ext Z.heap h0) (E1 : Exa Z h0 a1 "com/example/holdfast/holdfast/provider/ProviderAnswer") (F1 : Fld Z h0 a1 "com/example/holdfast/holdfast/provider/ProviderAnswer" "outcome" "Lcom/example/holdfast/holdfast/provider/ProviderAnswer$Outcome;" .null) (F2 : Fld Z h0 a1 "com/example/holdfast/holdfast/provider/ProviderAnswer" "id" "Ljava/lang/String;" .null) (F3 : Fld Z h0 a1 "com/example/holdfast/holdfast/provider/ProviderAnswer" "detail" "Ljava/lang/String;" .null) (g1 : Z.heap.size ≤ a1) (h_dv : dv.isRef = true) :
    MetFree l (⟨"com/example/holdfast/holdfast/provider/ProviderAnswer", "<init>", "(Lcom/example/holdfast/holdfast/provider/ProviderAnswer$Outcome;Ljava/lang/String;Ljava/lang/String;)V"⟩ : MethodName) (head1 (Jvm.Cond.code (⟨"com/example/holdfast/holdfast/provider/ProviderAnswer", "<init>", "(Lcom/example/holdfast/holdfast/provider/ProviderAnswer$Outcome;Ljava/lang/String;Ljava/lang/String;)V"⟩ : MethodName) prog_12_method_1_code 4 none :: ws) RMrmPAi) (fun a U => a = #[(.ref a1), (.ref a2), .null, dv] ∧ Z.Warmed39 U.vm ∧ U.heap = h0) (fun _ _ _ _ _ => True) (fun _ U o U' => ∃ v L, o = .returned v ∧ QrmPAi Z zc ko a1 a2 dv h0 v U'.heap L ∧ FrameEnd U o U' L RMrmPAi.cells RMrmPAi.slots) := by
  refine MetFree.of_bodySF (plainFor_of_name pn_com_example_holdfast_holdfast_provider_ProviderAnswer) hisR ?_
  intro p e s m args below meth c s₁ Bd hml0 hP hK
  obtain ⟨rfl, hZ, hh⟩ := hP
  have hx := Bd.exec
  have hby := Bd.bytes
  have hlk : meth.locks = false := BodyLoose.notSynchronized Bd
  have hret := Bd.returns
  have hml : c.maxLocals = 4 := hml0
  have hown : s.vm.findClass "com/example/holdfast/holdfast/provider/ProviderAnswer" = some m.cls := findClass_of_methodNamed Bd.named
  have hnm := (name_of_methodNamed Bd.named Bd.method).1
  have X0 : Stand p l e RMrmPAi s m #[(.ref a1), (.ref a2), .null, dv] below meth c s₁ [] 0 0 := Stand.of_body Bd
  have e0 : s₁.heap = h0 := by rw [← hh, Bd.state]; rfl
  have N0 := Fr.nil Z.heap.size
  show OEnd p e below (GN s (QrmPAi Z zc ko a1 a2 dv h0) RMrmPAi.cells RMrmPAi.slots) _
  refine OEnd.of (fun t k => castTop (ef_rmPAi m a1 a2 dv h_dv) k) ?_
  refine OEnd.of (fun t k => XS.aloadN X0.here hx rfl (hb hby d8_0) rfl rfl k) ?_
  show OEnd p e below _ (s₁.setTop (mkF m 1 #[.val (.ref a1), .val (.ref a2), .val .null, .val dv] [(.ref a1)]))
  obtain ⟨_, _, ⟨T2, L2, k2, n2⟩, -, X2, ⟨Lc2, hQ2, l2, y2, z2⟩, st2⟩ := X0.specialBack hx (y := (⟨"java/lang/Record", "<init>", "()V"⟩ : MethodName)) rfl hown (mvT hZ (hw _ (List.mem_of_getElem? (i := 42) rfl))) (mvT hZ (hw _ (List.mem_of_getElem? (i := 43) rfl))) (mvT hZ (hw _ (List.mem_of_getElem? (i := 46) rfl))) (by decide) (backOf (W := 0) (rmRec l Z a0 hw zc ko S_CS hzc S_FAILED [] a1 h0 O0 ) hZ (hw _ (List.mem_of_getElem? (i := 46) rfl)) (hw _ (List.mem_of_getElem? (i := 45) rfl)) (by decide) (by decide)) (g := (mkF m 1 #[.val (.ref a1), .val (.ref a2), .val .null, .val dv] [(.ref a1)])) rfl (by rw [hml]; rfl) (Steps.refl _) (a := a1) (argsL := []) (rest := []) (lenOf pd_2829V rfl) rfl (by show 2 * 0 + _ ≤ _; exact Nat.le_of_eq rfl) (hb hby d8_1) (fun _ _ => ⟨rfl, e0, (by decide : 0 + 0 ≤ _), (by decide : 0 + 0 ≤ _)⟩)
  dsimp only [Pt.U, Pt.locs, Pt.cells, Pt.slots] at X2 l2 y2 z2 st2 hQ2
  subst l2 y2 z2
  obtain ⟨rfl, Nq2, e2⟩ := hQ2
  have N3 := Fr.app N0 Nq2
  refine OEnd.of (fun t k => st2.trans k) ?_
  show OEnd p e below _ (T2.setTop (mkF m 4 #[.val (.ref a1), .val (.ref a2), .val .null, .val dv] []))
  refine OEnd.of (fun t k => XS.aloadN X2.here hx rfl (hb hby d8_4) rfl rfl k) ?_
  show OEnd p e below _ (T2.setTop (mkF m 5 #[.val (.ref a1), .val (.ref a2), .val .null, .val dv] [(.ref a1)]))
  refine OEnd.of (fun t k => XS.aloadN X2.here hx rfl (hb hby d8_5) rfl rfl k) ?_
  show OEnd p e below _ (T2.setTop (mkF m 6 #[.val (.ref a1), .val (.ref a2), .val .null, .val dv] [(.ref a2), (.ref a1)]))
  obtain ⟨T4, h4, X4, e4, W4, st4⟩ := putF X2 hx hZ hown (host := "") (Or.inl (hw _ (List.mem_of_getElem? (i := 48) rfl))) Via.refl e2 F1 E1 (Or.inr ⟨(hw _ (List.mem_of_getElem? (i := 49) rfl)), rfl, hnm⟩) (hw _ (List.mem_of_getElem? (i := 35) rfl)) (ty := (.object "com/example/holdfast/holdfast/provider/ProviderAnswer$Outcome")) (by decide) rfl rfl (g := (mkF m 6 #[.val (.ref a1), .val (.ref a2), .val .null, .val dv] [(.ref a2), (.ref a1)])) rfl rfl (hb hby d8_6)
  refine OEnd.of st4 ?_
  have F5 : Fld Z h4 a1 "com/example/holdfast/holdfast/provider/ProviderAnswer" "outcome" "Lcom/example/holdfast/holdfast/provider/ProviderAnswer$Outcome;" (.ref a2) := Fld.same W4 F1
  have E6 : Exa Z h4 a1 "com/example/holdfast/holdfast/provider/ProviderAnswer" := E1.wr W4
  have F7 : Fld Z h4 a1 "com/example/holdfast/holdfast/provider/ProviderAnswer" "id" "Ljava/lang/String;" .null := F2.other W4 (Or.inr (slot_ne (Or.inr (hw _ (List.mem_of_getElem? (i := 51) rfl))) (Or.inr (hw _ (List.mem_of_getElem? (i := 49) rfl))) (by decide) (t := (.object "java/lang/String")) (t' := (.object "com/example/holdfast/holdfast/provider/ProviderAnswer$Outcome")) (by decide) (by decide)))
  have F8 : Fld Z h4 a1 "com/example/holdfast/holdfast/provider/ProviderAnswer" "detail" "Ljava/lang/String;" .null := F3.other W4 (Or.inr (slot_ne (Or.inr (hw _ (List.mem_of_getElem? (i := 53) rfl))) (Or.inr (hw _ (List.mem_of_getElem? (i := 49) rfl))) (by decide) (t := (.object "java/lang/String")) (t' := (.object "com/example/holdfast/holdfast/provider/ProviderAnswer$Outcome")) (by decide) (by decide)))
  have N9 := Fr.snoc X4 N3 g1
  show OEnd p e below _ (T4.setTop (mkF m 9 #[.val (.ref a1), .val (.ref a2), .val .null, .val dv] []))
  refine OEnd.of (fun t k => XS.aloadN X4.here hx rfl (hb hby d8_9) rfl rfl k) ?_
  show OEnd p e below _ (T4.setTop (mkF m 10 #[.val (.ref a1), .val (.ref a2), .val .null, .val dv] [(.ref a1)]))
  refine OEnd.of (fun t k => XS.aloadN X4.here hx rfl (hb hby d8_10) rfl rfl k) ?_
  show OEnd p e below _ (T4.setTop (mkF m 11 #[.val (.ref a1), .val (.ref a2), .val .null, .val dv] [.null, (.ref a1)]))
  obtain ⟨T10, h10, X10, e10, W10, st10⟩ := putF X4 hx hZ hown (host := "") (Or.inl (hw _ (List.mem_of_getElem? (i := 50) rfl))) Via.refl e4 F7 E6 (Or.inr ⟨(hw _ (List.mem_of_getElem? (i := 51) rfl)), rfl, hnm⟩) (hw _ (List.mem_of_getElem? (i := 35) rfl)) (ty := (.object "java/lang/String")) (by decide) rfl rfl (g := (mkF m 11 #[.val (.ref a1), .val (.ref a2), .val .null, .val dv] [.null, (.ref a1)])) rfl rfl (hb hby d8_11)
  refine OEnd.of st10 ?_
  have F11 : Fld Z h10 a1 "com/example/holdfast/holdfast/provider/ProviderAnswer" "id" "Ljava/lang/String;" .null := Fld.same W10 F7
  have E12 : Exa Z h10 a1 "com/example/holdfast/holdfast/provider/ProviderAnswer" := E6.wr W10
  have F13 : Fld Z h10 a1 "com/example/holdfast/holdfast/provider/ProviderAnswer" "detail" "Ljava/lang/String;" .null := F8.other W10 (Or.inr (slot_ne (Or.inr (hw _ (List.mem_of_getElem? (i := 53) rfl))) (Or.inr (hw _ (List.mem_of_getElem? (i := 51) rfl))) (by decide) (t := (.object "java/lang/String")) (t' := (.object "java/lang/String")) (by decide) (by decide)))
  have F14 : Fld Z h10 a1 "com/example/holdfast/holdfast/provider/ProviderAnswer" "outcome" "Lcom/example/holdfast/holdfast/provider/ProviderAnswer$Outcome;" (.ref a2) := F5.other W10 (Or.inr (slot_ne (Or.inr (hw _ (List.mem_of_getElem? (i := 49) rfl))) (Or.inr (hw _ (List.mem_of_getElem? (i := 51) rfl))) (by decide) (t := (.object "com/example/holdfast/holdfast/provider/ProviderAnswer$Outcome")) (t' := (.object "java/lang/String")) (by decide) (by decide)))
  have N15 := Fr.snoc X10 N9 g1
  show OEnd p e below _ (T10.setTop (mkF m 14 #[.val (.ref a1), .val (.ref a2), .val .null, .val dv] []))
  refine OEnd.of (fun t k => XS.aloadN X10.here hx rfl (hb hby d8_14) rfl rfl k) ?_
  show OEnd p e below _ (T10.setTop (mkF m 15 #[.val (.ref a1), .val (.ref a2), .val .null, .val dv] [(.ref a1)]))
  refine OEnd.of (fun t k => XS.aloadN X10.here hx rfl (hb hby d8_15) rfl h_dv k) ?_
  show OEnd p e below _ (T10.setTop (mkF m 16 #[.val (.ref a1), .val (.ref a2), .val .null, .val dv] [dv, (.ref a1)]))
  obtain ⟨T16, h16, X16, e16, W16, st16⟩ := putF X10 hx hZ hown (host := "") (Or.inl (hw _ (List.mem_of_getElem? (i := 52) rfl))) Via.refl e10 F13 E12 (Or.inr ⟨(hw _ (List.mem_of_getElem? (i := 53) rfl)), rfl, hnm⟩) (hw _ (List.mem_of_getElem? (i := 35) rfl)) (ty := (.object "java/lang/String")) (by decide) rfl (own_fitsRef h_dv rfl) (g := (mkF m 16 #[.val (.ref a1), .val (.ref a2), .val .null, .val dv] [dv, (.ref a1)])) rfl rfl (hb hby d8_16)
  refine OEnd.of st16 ?_
  have F17 : Fld Z h16 a1 "com/example/holdfast/holdfast/provider/ProviderAnswer" "detail" "Ljava/lang/String;" dv := Fld.same W16 F13
  have E18 : Exa Z h16 a1 "com/example/holdfast/holdfast/provider/ProviderAnswer" := E12.wr W16
  have F19 : Fld Z h16 a1 "com/example/holdfast/holdfast/provider/ProviderAnswer" "outcome" "Lcom/example/holdfast/holdfast/provider/ProviderAnswer$Outcome;" (.ref a2) := F14.other W16 (Or.inr (slot_ne (Or.inr (hw _ (List.mem_of_getElem? (i := 49) rfl))) (Or.inr (hw _ (List.mem_of_getElem? (i := 53) rfl))) (by decide) (t := (.object "com/example/holdfast/holdfast/provider/ProviderAnswer$Outcome")) (t' := (.object "java/lang/String")) (by decide) (by decide)))
  have F20 : Fld Z h16 a1 "com/example/holdfast/holdfast/provider/ProviderAnswer" "id" "Ljava/lang/String;" .null := F11.other W16 (Or.inr (slot_ne (Or.inr (hw _ (List.mem_of_getElem? (i := 51) rfl))) (Or.inr (hw _ (List.mem_of_getElem? (i := 53) rfl))) (by decide) (t := (.object "java/lang/String")) (t' := (.object "java/lang/String")) (by decide) (by decide)))
  have N21 := Fr.snoc X16 N15 g1
  show OEnd p e below _ (T16.setTop (mkF m 19 #[.val (.ref a1), .val (.ref a2), .val .null, .val dv] []))
  have K22 : Keep h0 h16 [a1] := ((((Keep.refl h0 [a1]).wr W4 (Or.inl (List.mem_of_getElem? (i := 0) rfl))).wr W10 (Or.inl (List.mem_of_getElem? (i := 0) rfl))).wr W16 (Or.inl (List.mem_of_getElem? (i := 0) rfl)))
  exact OEnd.retV X16 hx hlk e16 hret (hb hby d8_19) ⟨rfl, N21, K22, E18, F19, F20, F17⟩ (by decide) (by decide)
theorem pd_28Lcom2fexample2fholdfast2fholdfast2fprovider2fProviderAnswer24Outcome3bLjava2flang2fString3bLjava2flang2fString3b29V : parseMethodDescriptor "(Lcom/example/holdfast/holdfast/provider/ProviderAnswer$Outcome;Ljava/lang/String;Ljava/lang/String;)V" = some ⟨[(.object "com/example/holdfast/holdfast/provider/ProviderAnswer$Outcome"), (.object "java/lang/String"), (.object "java/lang/String")], none⟩ := by decide +kernel
theorem d7_0 : decode prog_12_method_5_code 0 = .ok (.new 8, 3) := by decide +kernel
theorem d7_3 : decode prog_12_method_5_code 3 = .ok (.dup, 1) := by decide +kernel
theorem d7_4 : decode prog_12_method_5_code 4 = .ok (.getstatic 34, 3) := by decide +kernel
theorem d7_7 : decode prog_12_method_5_code 7 = .ok (.aconst_null, 1) := by decide +kernel
theorem d7_8 : decode prog_12_method_5_code 8 = .ok (.aload_n 0, 1) := by decide +kernel
theorem d7_9 : decode prog_12_method_5_code 9 = .ok (.invokespecial 25, 3) := by decide +kernel
theorem d7_12 : decode prog_12_method_5_code 12 = .ok (.areturn, 1) := by decide +kernel
abbrev RMrmPAm : Room := { frames := 3, cells := 1, slots := 3, locals := 40 }
theorem ef_rmPAm (m : MethodId) (dv : Value) (h_dv : dv.isRef = true) : entryFrame m #[dv] 1 = mkF m 0 #[.val dv] [] := by rcases ref_cases h_dv with rfl | ⟨_, rfl⟩ <;> first | (simp [entryFrame, mkF, argsToLocals, Value.category]; done) | rfl
def QrmPAm (Z : State) (zc : Int32) (ko : Addr) (dv : Value) (h0 : Heap) (v : Option Value) (h : Heap) (L : List Loc) : Prop := ∃ (r : Addr), v = some (.ref r) ∧ Fr Z.heap.size L ∧ Keep h0 h [] ∧ Exa Z h r "com/example/holdfast/holdfast/provider/ProviderAnswer" ∧ Fld Z h r "com/example/holdfast/holdfast/provider/ProviderAnswer" "outcome" "Lcom/example/holdfast/holdfast/provider/ProviderAnswer$Outcome;" (.ref ko) ∧ Fld Z h r "com/example/holdfast/holdfast/provider/ProviderAnswer" "id" "Ljava/lang/String;" .null ∧ Fld Z h r "com/example/holdfast/holdfast/provider/ProviderAnswer" "detail" "Ljava/lang/String;" dv
set_option maxRecDepth 65536 in
set_option maxHeartbeats 40000000 in
theorem rmPAm (l : Launch) (Z : State) (a0 : Array Value) (hw : ∀ d ∈ tables_1, d.before a0 Z = true) (zc : Int32) (ko : Addr) (S_CS : Sta Z Z.heap "java/lang/String" "COMPACT_STRINGS" "Z" (.int zc)) (hzc : ¬ zc = 0) (S_FAILED : Sta Z Z.heap "com/example/holdfast/holdfast/provider/ProviderAnswer$Outcome" "FAILED" "Lcom/example/holdfast/holdfast/provider/ProviderAnswer$Outcome;" (.ref ko)) (ws : List Jvm.Cond) (dv : Value) (h0 : Heap) (O0 : Ext Z.heap h0) (h_dv : dv.isRef = true) :
    MetFree l (⟨"com/example/holdfast/holdfast/provider/ProviderAnswer", "failed", "(Ljava/lang/String;)Lcom/example/holdfast/holdfast/provider/ProviderAnswer;"⟩ : MethodName) (head1 (Jvm.Cond.code (⟨"com/example/holdfast/holdfast/provider/ProviderAnswer", "failed", "(Ljava/lang/String;)Lcom/example/holdfast/holdfast/provider/ProviderAnswer;"⟩ : MethodName) prog_12_method_5_code 1 (some (.object "com/example/holdfast/holdfast/provider/ProviderAnswer")) :: ws) RMrmPAm) (fun a U => a = #[dv] ∧ Z.Warmed39 U.vm ∧ U.heap = h0) (fun _ _ _ _ _ => True) (fun _ U o U' => ∃ v L, o = .returned v ∧ QrmPAm Z zc ko dv h0 v U'.heap L ∧ FrameEnd U o U' L RMrmPAm.cells RMrmPAm.slots) := by
  refine MetFree.of_bodySF (plainFor_of_name pn_com_example_holdfast_holdfast_provider_ProviderAnswer) hisR ?_
  intro p e s m args below meth c s₁ Bd hml0 hP hK
  obtain ⟨rfl, hZ, hh⟩ := hP
  have hx := Bd.exec
  have hby := Bd.bytes
  have hlk : meth.locks = false := BodyLoose.notSynchronized Bd
  have hret := Bd.returns
  have hml : c.maxLocals = 1 := hml0
  have hown : s.vm.findClass "com/example/holdfast/holdfast/provider/ProviderAnswer" = some m.cls := findClass_of_methodNamed Bd.named
  have hnm := (name_of_methodNamed Bd.named Bd.method).1
  have X0 : Stand p l e RMrmPAm s m #[dv] below meth c s₁ [] 0 0 := Stand.of_body Bd
  have e0 : s₁.heap = h0 := by rw [← hh, Bd.state]; rfl
  have N0 := Fr.nil Z.heap.size
  show OEnd p e below (GN s (QrmPAm Z zc ko dv h0) RMrmPAm.cells RMrmPAm.slots) _
  refine OEnd.of (fun t k => castTop (ef_rmPAm m dv h_dv) k) ?_
  obtain ⟨T23, h23, X23, e23, E23, A23, D23, -, st23⟩ := newO X0 hx hZ hown (hw _ (List.mem_of_getElem? (i := 34) rfl)) (hw _ (List.mem_of_getElem? (i := 35) rfl)) (hw _ (List.mem_of_getElem? (i := 32) rfl)) e0 (g := (mkF m 0 #[.val dv] [])) rfl (hb hby d7_0) (by decide) (by decide)
  obtain ⟨b23, g23⟩ : ∃ z, z = h0.size := ⟨_, rfl⟩
  rw [← g23] at A23 D23 st23
  refine OEnd.of st23 ?_
  have f23 : Z.heap.size ≤ b23 := Nat.le_trans O0.1 (Nat.le_of_eq g23.symm)
  have F24 : Fld Z h23 b23 "com/example/holdfast/holdfast/provider/ProviderAnswer" "outcome" "Lcom/example/holdfast/holdfast/provider/ProviderAnswer$Outcome;" .null := D23 (Or.inr (hw _ (List.mem_of_getElem? (i := 49) rfl))) (ty := (.object "com/example/holdfast/holdfast/provider/ProviderAnswer$Outcome")) (by decide)
  have F25 : Fld Z h23 b23 "com/example/holdfast/holdfast/provider/ProviderAnswer" "id" "Ljava/lang/String;" .null := D23 (Or.inr (hw _ (List.mem_of_getElem? (i := 51) rfl))) (ty := (.object "java/lang/String")) (by decide)
  have F26 : Fld Z h23 b23 "com/example/holdfast/holdfast/provider/ProviderAnswer" "detail" "Ljava/lang/String;" .null := D23 (Or.inr (hw _ (List.mem_of_getElem? (i := 53) rfl))) (ty := (.object "java/lang/String")) (by decide)
  show OEnd p e below _ (T23.setTop (mkF m 3 #[.val dv] [(.ref b23)]))
  refine OEnd.of (fun t k => XS.dup X23.here hx rfl (hb hby d7_3) rfl rfl k) ?_
  show OEnd p e below _ (T23.setTop (mkF m 4 #[.val dv] [(.ref b23), (.ref b23)]))
  have K28 : Keep h0 h23 [] := ((Keep.refl h0 []).ext E23)
  have O29 : Ext Z.heap h23 := own_extKeep O0 K28 all0
  obtain ⟨T27, X27, e27, st27⟩ := getS2 X23 hx hZ hown (host := "") (Or.inl (hw _ (List.mem_of_getElem? (i := 36) rfl))) Via.refl e23 (Sta.ext O29 S_FAILED) (g := (mkF m 4 #[.val dv] [(.ref b23), (.ref b23)])) rfl (hb hby d7_4)
  refine OEnd.of st27 ?_
  show OEnd p e below _ (T27.setTop (mkF m 7 #[.val dv] [(.ref ko), (.ref b23), (.ref b23)]))
  refine OEnd.of (fun t k => XS.aconstNull X27.here hx rfl (hb hby d7_7) k) ?_
  show OEnd p e below _ (T27.setTop (mkF m 8 #[.val dv] [.null, (.ref ko), (.ref b23), (.ref b23)]))
  refine OEnd.of (fun t k => XS.aloadN X27.here hx rfl (hb hby d7_8) rfl h_dv k) ?_
  show OEnd p e below _ (T27.setTop (mkF m 9 #[.val dv] [dv, .null, (.ref ko), (.ref b23), (.ref b23)]))
  obtain ⟨_, _, ⟨T30, L30, k30, n30⟩, -, X30, ⟨Lc30, hQ30, l30, y30, z30⟩, st30⟩ := X27.specialBack hx (y := (⟨"com/example/holdfast/holdfast/provider/ProviderAnswer", "<init>", "(Lcom/example/holdfast/holdfast/provider/ProviderAnswer$Outcome;Ljava/lang/String;Ljava/lang/String;)V"⟩ : MethodName)) rfl hown (mvT hZ (hw _ (List.mem_of_getElem? (i := 39) rfl))) (mvT hZ (hw _ (List.mem_of_getElem? (i := 40) rfl))) (mvT hZ (hw _ (List.mem_of_getElem? (i := 41) rfl))) (by decide) (backOf (W := 1) (rmPAi l Z a0 hw zc ko S_CS hzc S_FAILED [] b23 ko dv h23 O29 A23 F24 F25 F26 f23 h_dv) hZ (hw _ (List.mem_of_getElem? (i := 41) rfl)) (hw _ (List.mem_of_getElem? (i := 32) rfl)) (by decide) (by decide)) (g := (mkF m 9 #[.val dv] [dv, .null, (.ref ko), (.ref b23), (.ref b23)])) rfl (by rw [hml]; rfl) (Steps.refl _) (a := b23) (argsL := [(.ref ko), .null, dv]) (rest := [(.ref b23)]) (lenOf pd_28Lcom2fexample2fholdfast2fholdfast2fprovider2fProviderAnswer24Outcome3bLjava2flang2fString3bLjava2flang2fString3b29V rfl) rfl (by show 2 * 0 + _ ≤ _; exact Nat.le_of_eq rfl) (hb hby d7_9) (fun _ _ => ⟨rfl, e27, (by decide : 1 + 0 ≤ _), (by decide : 3 + 0 ≤ _)⟩)
  dsimp only [Pt.U, Pt.locs, Pt.cells, Pt.slots] at X30 l30 y30 z30 st30 hQ30
  subst l30 y30 z30
  obtain ⟨h30, e30⟩ : ∃ z, T30.heap = z := ⟨_, rfl⟩
  rw [e30] at hQ30
  obtain ⟨rfl, Nq30, Kq30, E_31, Fo_32, Fi_33, Fd_34⟩ := hQ30
  have N35 := Fr.app N0 Nq30
  refine OEnd.of (fun t k => st30.trans k) ?_
  show OEnd p e below _ (T30.setTop (mkF m 12 #[.val dv] [(.ref b23)]))
  have K36 : Keep h0 h30 [] := (K28.trans Kq30 (allS (Or.inr (Nat.le_of_eq g23.symm)) all0))
  exact OEnd.retA X30 hx hlk e30 hret rfl rfl (hb hby d7_12) ⟨b23, rfl, N35, K36, E_31, Fo_32, Fi_33, Fd_34⟩ (by decide) (by decide)
theorem d10_0 : decode prog_12_method_11_code 0 = .ok (.aload_n 0, 1) := by decide +kernel
theorem d10_1 : decode prog_12_method_11_code 1 = .ok (.getfield 7, 3) := by decide +kernel
theorem d10_4 : decode prog_12_method_11_code 4 = .ok (.areturn, 1) := by decide +kernel
abbrev RMrmPAo : Room := { frames := 0, cells := 0, slots := 0, locals := 0 }
theorem ef_rmPAo (m : MethodId) (a1 : Addr) : entryFrame m #[(.ref a1)] 1 = mkF m 0 #[.val (.ref a1)] [] := by first | (simp [entryFrame, mkF, argsToLocals, Value.category]; done) | rfl
def QrmPAo (Z : State) (zc : Int32) (ko : Addr) (a1 : Addr) (a2 : Addr) (h0 : Heap) (v : Option Value) (h : Heap) (L : List Loc) : Prop := v = some (.ref a2) ∧ Fr Z.heap.size L ∧ h = h0
set_option maxRecDepth 65536 in
set_option maxHeartbeats 40000000 in
theorem rmPAo (l : Launch) (Z : State) (a0 : Array Value) (hw : ∀ d ∈ tables_1, d.before a0 Z = true) (zc : Int32) (ko : Addr) (S_CS : Sta Z Z.heap "java/lang/String" "COMPACT_STRINGS" "Z" (.int zc)) (hzc : ¬ zc = 0) (S_FAILED : Sta Z Z.heap "com/example/holdfast/holdfast/provider/ProviderAnswer$Outcome" "FAILED" "Lcom/example/holdfast/holdfast/provider/ProviderAnswer$Outcome;" (.ref ko)) (ws : List Jvm.Cond) (a1 : Addr) (a2 : Addr) (h0 : Heap) (O0 : Ext Z.heap h0) (F1 : Fld Z h0 a1 "com/example/holdfast/holdfast/provider/ProviderAnswer" "outcome" "Lcom/example/holdfast/holdfast/provider/ProviderAnswer$Outcome;" (.ref a2)) :
    MetFree l (⟨"com/example/holdfast/holdfast/provider/ProviderAnswer", "outcome", "()Lcom/example/holdfast/holdfast/provider/ProviderAnswer$Outcome;"⟩ : MethodName) (head1 (Jvm.Cond.code (⟨"com/example/holdfast/holdfast/provider/ProviderAnswer", "outcome", "()Lcom/example/holdfast/holdfast/provider/ProviderAnswer$Outcome;"⟩ : MethodName) prog_12_method_11_code 1 (some (.object "com/example/holdfast/holdfast/provider/ProviderAnswer$Outcome")) :: ws) RMrmPAo) (fun a U => a = #[(.ref a1)] ∧ Z.Warmed39 U.vm ∧ U.heap = h0) (fun _ _ _ _ _ => True) (fun _ U o U' => ∃ v L, o = .returned v ∧ QrmPAo Z zc ko a1 a2 h0 v U'.heap L ∧ FrameEnd U o U' L RMrmPAo.cells RMrmPAo.slots) := by
  refine MetFree.of_bodySF (plainFor_of_name pn_com_example_holdfast_holdfast_provider_ProviderAnswer) hisR ?_
  intro p e s m args below meth c s₁ Bd hml0 hP hK
  obtain ⟨rfl, hZ, hh⟩ := hP
  have hx := Bd.exec
  have hby := Bd.bytes
  have hlk : meth.locks = false := BodyLoose.notSynchronized Bd
  have hret := Bd.returns
  have hml : c.maxLocals = 1 := hml0
  have hown : s.vm.findClass "com/example/holdfast/holdfast/provider/ProviderAnswer" = some m.cls := findClass_of_methodNamed Bd.named
  have hnm := (name_of_methodNamed Bd.named Bd.method).1
  have X0 : Stand p l e RMrmPAo s m #[(.ref a1)] below meth c s₁ [] 0 0 := Stand.of_body Bd
  have e0 : s₁.heap = h0 := by rw [← hh, Bd.state]; rfl
  have N0 := Fr.nil Z.heap.size
  show OEnd p e below (GN s (QrmPAo Z zc ko a1 a2 h0) RMrmPAo.cells RMrmPAo.slots) _
  refine OEnd.of (fun t k => castTop (ef_rmPAo m a1) k) ?_
  refine OEnd.of (fun t k => XS.aloadN X0.here hx rfl (hb hby d10_0) rfl rfl k) ?_
  show OEnd p e below _ (s₁.setTop (mkF m 1 #[.val (.ref a1)] [(.ref a1)]))
  obtain ⟨T37, X37, e37, st37⟩ := getF X0 hx hZ hown (host := "") (Or.inl (hw _ (List.mem_of_getElem? (i := 48) rfl))) Via.refl e0 F1 (g := (mkF m 1 #[.val (.ref a1)] [(.ref a1)])) rfl rfl (hb hby d10_1)
  refine OEnd.of st37 ?_
  show OEnd p e below _ (T37.setTop (mkF m 4 #[.val (.ref a1)] [(.ref a2)]))
  exact OEnd.retA X37 hx hlk e37 hret rfl rfl (hb hby d10_4) ⟨rfl, N0, rfl⟩ (by decide) (by decide)
theorem d11_0 : decode prog_12_method_12_code 0 = .ok (.aload_n 0, 1) := by decide +kernel
theorem d11_1 : decode prog_12_method_12_code 1 = .ok (.getfield 13, 3) := by decide +kernel
theorem d11_4 : decode prog_12_method_12_code 4 = .ok (.areturn, 1) := by decide +kernel
abbrev RMrmPAd : Room := { frames := 0, cells := 0, slots := 0, locals := 0 }
theorem ef_rmPAd (m : MethodId) (a1 : Addr) : entryFrame m #[(.ref a1)] 1 = mkF m 0 #[.val (.ref a1)] [] := by first | (simp [entryFrame, mkF, argsToLocals, Value.category]; done) | rfl
def QrmPAd (Z : State) (zc : Int32) (ko : Addr) (a1 : Addr) (h0 : Heap) (v : Option Value) (h : Heap) (L : List Loc) : Prop := v = some .null ∧ Fr Z.heap.size L ∧ h = h0
set_option maxRecDepth 65536 in
set_option maxHeartbeats 40000000 in
theorem rmPAd (l : Launch) (Z : State) (a0 : Array Value) (hw : ∀ d ∈ tables_1, d.before a0 Z = true) (zc : Int32) (ko : Addr) (S_CS : Sta Z Z.heap "java/lang/String" "COMPACT_STRINGS" "Z" (.int zc)) (hzc : ¬ zc = 0) (S_FAILED : Sta Z Z.heap "com/example/holdfast/holdfast/provider/ProviderAnswer$Outcome" "FAILED" "Lcom/example/holdfast/holdfast/provider/ProviderAnswer$Outcome;" (.ref ko)) (ws : List Jvm.Cond) (a1 : Addr) (h0 : Heap) (O0 : Ext Z.heap h0) (F1 : Fld Z h0 a1 "com/example/holdfast/holdfast/provider/ProviderAnswer" "id" "Ljava/lang/String;" .null) :
    MetFree l (⟨"com/example/holdfast/holdfast/provider/ProviderAnswer", "id", "()Ljava/lang/String;"⟩ : MethodName) (head1 (Jvm.Cond.code (⟨"com/example/holdfast/holdfast/provider/ProviderAnswer", "id", "()Ljava/lang/String;"⟩ : MethodName) prog_12_method_12_code 1 (some (.object "java/lang/String")) :: ws) RMrmPAd) (fun a U => a = #[(.ref a1)] ∧ Z.Warmed39 U.vm ∧ U.heap = h0) (fun _ _ _ _ _ => True) (fun _ U o U' => ∃ v L, o = .returned v ∧ QrmPAd Z zc ko a1 h0 v U'.heap L ∧ FrameEnd U o U' L RMrmPAd.cells RMrmPAd.slots) := by
  refine MetFree.of_bodySF (plainFor_of_name pn_com_example_holdfast_holdfast_provider_ProviderAnswer) hisR ?_
  intro p e s m args below meth c s₁ Bd hml0 hP hK
  obtain ⟨rfl, hZ, hh⟩ := hP
  have hx := Bd.exec
  have hby := Bd.bytes
  have hlk : meth.locks = false := BodyLoose.notSynchronized Bd
  have hret := Bd.returns
  have hml : c.maxLocals = 1 := hml0
  have hown : s.vm.findClass "com/example/holdfast/holdfast/provider/ProviderAnswer" = some m.cls := findClass_of_methodNamed Bd.named
  have hnm := (name_of_methodNamed Bd.named Bd.method).1
  have X0 : Stand p l e RMrmPAd s m #[(.ref a1)] below meth c s₁ [] 0 0 := Stand.of_body Bd
  have e0 : s₁.heap = h0 := by rw [← hh, Bd.state]; rfl
  have N0 := Fr.nil Z.heap.size
  show OEnd p e below (GN s (QrmPAd Z zc ko a1 h0) RMrmPAd.cells RMrmPAd.slots) _
  refine OEnd.of (fun t k => castTop (ef_rmPAd m a1) k) ?_
  refine OEnd.of (fun t k => XS.aloadN X0.here hx rfl (hb hby d11_0) rfl rfl k) ?_
  show OEnd p e below _ (s₁.setTop (mkF m 1 #[.val (.ref a1)] [(.ref a1)]))
  obtain ⟨T38, X38, e38, st38⟩ := getF X0 hx hZ hown (host := "") (Or.inl (hw _ (List.mem_of_getElem? (i := 50) rfl))) Via.refl e0 F1 (g := (mkF m 1 #[.val (.ref a1)] [(.ref a1)])) rfl rfl (hb hby d11_1)
  refine OEnd.of st38 ?_
  show OEnd p e below _ (T38.setTop (mkF m 4 #[.val (.ref a1)] [.null]))
  exact OEnd.retA X38 hx hlk e38 hret rfl rfl (hb hby d11_4) ⟨rfl, N0, rfl⟩ (by decide) (by decide)
theorem d12_0 : decode prog_12_method_13_code 0 = .ok (.aload_n 0, 1) := by decide +kernel
theorem d12_1 : decode prog_12_method_13_code 1 = .ok (.getfield 17, 3) := by decide +kernel
theorem d12_4 : decode prog_12_method_13_code 4 = .ok (.areturn, 1) := by decide +kernel
abbrev RMrmPAe : Room := { frames := 0, cells := 0, slots := 0, locals := 0 }
theorem ef_rmPAe (m : MethodId) (a1 : Addr) : entryFrame m #[(.ref a1)] 1 = mkF m 0 #[.val (.ref a1)] [] := by first | (simp [entryFrame, mkF, argsToLocals, Value.category]; done) | rfl
def QrmPAe (Z : State) (zc : Int32) (ko : Addr) (a1 : Addr) (dv : Value) (h0 : Heap) (v : Option Value) (h : Heap) (L : List Loc) : Prop := v = some dv ∧ Fr Z.heap.size L ∧ h = h0
set_option maxRecDepth 65536 in
set_option maxHeartbeats 40000000 in
theorem rmPAe (l : Launch) (Z : State) (a0 : Array Value) (hw : ∀ d ∈ tables_1, d.before a0 Z = true) (zc : Int32) (ko : Addr) (S_CS : Sta Z Z.heap "java/lang/String" "COMPACT_STRINGS" "Z" (.int zc)) (hzc : ¬ zc = 0) (S_FAILED : Sta Z Z.heap "com/example/holdfast/holdfast/provider/ProviderAnswer$Outcome" "FAILED" "Lcom/example/holdfast/holdfast/provider/ProviderAnswer$Outcome;" (.ref ko)) (ws : List Jvm.Cond) (a1 : Addr) (dv : Value) (h0 : Heap) (O0 : Ext Z.heap h0) (F1 : Fld Z h0 a1 "com/example/holdfast/holdfast/provider/ProviderAnswer" "detail" "Ljava/lang/String;" dv) (h_dv : dv.isRef = true) :
    MetFree l (⟨"com/example/holdfast/holdfast/provider/ProviderAnswer", "detail", "()Ljava/lang/String;"⟩ : MethodName) (head1 (Jvm.Cond.code (⟨"com/example/holdfast/holdfast/provider/ProviderAnswer", "detail", "()Ljava/lang/String;"⟩ : MethodName) prog_12_method_13_code 1 (some (.object "java/lang/String")) :: ws) RMrmPAe) (fun a U => a = #[(.ref a1)] ∧ Z.Warmed39 U.vm ∧ U.heap = h0) (fun _ _ _ _ _ => True) (fun _ U o U' => ∃ v L, o = .returned v ∧ QrmPAe Z zc ko a1 dv h0 v U'.heap L ∧ FrameEnd U o U' L RMrmPAe.cells RMrmPAe.slots) := by
  refine MetFree.of_bodySF (plainFor_of_name pn_com_example_holdfast_holdfast_provider_ProviderAnswer) hisR ?_
  intro p e s m args below meth c s₁ Bd hml0 hP hK
  obtain ⟨rfl, hZ, hh⟩ := hP
  have hx := Bd.exec
  have hby := Bd.bytes
  have hlk : meth.locks = false := BodyLoose.notSynchronized Bd
  have hret := Bd.returns
  have hml : c.maxLocals = 1 := hml0
  have hown : s.vm.findClass "com/example/holdfast/holdfast/provider/ProviderAnswer" = some m.cls := findClass_of_methodNamed Bd.named
  have hnm := (name_of_methodNamed Bd.named Bd.method).1
  have X0 : Stand p l e RMrmPAe s m #[(.ref a1)] below meth c s₁ [] 0 0 := Stand.of_body Bd
  have e0 : s₁.heap = h0 := by rw [← hh, Bd.state]; rfl
  have N0 := Fr.nil Z.heap.size
  show OEnd p e below (GN s (QrmPAe Z zc ko a1 dv h0) RMrmPAe.cells RMrmPAe.slots) _
  refine OEnd.of (fun t k => castTop (ef_rmPAe m a1) k) ?_
  refine OEnd.of (fun t k => XS.aloadN X0.here hx rfl (hb hby d12_0) rfl rfl k) ?_
  show OEnd p e below _ (s₁.setTop (mkF m 1 #[.val (.ref a1)] [(.ref a1)]))
  obtain ⟨T39, X39, e39, st39⟩ := getF X0 hx hZ hown (host := "") (Or.inl (hw _ (List.mem_of_getElem? (i := 52) rfl))) Via.refl e0 F1 (g := (mkF m 1 #[.val (.ref a1)] [(.ref a1)])) rfl rfl (hb hby d12_1)
  refine OEnd.of st39 ?_
  show OEnd p e below _ (T39.setTop (mkF m 4 #[.val (.ref a1)] [dv]))
  exact OEnd.retA X39 hx hlk e39 hret rfl h_dv (hb hby d12_4) ⟨rfl, N0, rfl⟩ (by decide) (by decide)
theorem own_lit_ : (∀ c ∈ "".toList, c.toNat < 256) ∧ "".toList.map (fun c => Value.int (Jvm.Lit.byteI c.toNat.toUInt16)) = [] := ⟨by decide, by decide +kernel⟩
theorem d2_0 : decode jdk_42_method_149_code 0 = .ok (.aload_n 0, 1) := by decide +kernel
theorem d2_1 : decode jdk_42_method_149_code 1 = .ok (.invokespecial 1, 3) := by decide +kernel
theorem d2_4 : decode jdk_42_method_149_code 4 = .ok (.iload_n 3, 1) := by decide +kernel
theorem d2_5 : decode jdk_42_method_149_code 5 = .ok (.ifCond .ne 22, 3) := by decide +kernel
theorem d2_8 : decode jdk_42_method_149_code 8 = .ok (.aload_n 0, 1) := by decide +kernel
theorem d2_9 : decode jdk_42_method_149_code 9 = .ok (.ldc 7, 2) := by decide +kernel
theorem d2_11 : decode jdk_42_method_149_code 11 = .ok (.getfield 9, 3) := by decide +kernel
theorem d2_14 : decode jdk_42_method_149_code 14 = .ok (.putfield 9, 3) := by decide +kernel
theorem d2_17 : decode jdk_42_method_149_code 17 = .ok (.aload_n 0, 1) := by decide +kernel
theorem d2_18 : decode jdk_42_method_149_code 18 = .ok (.ldc 7, 2) := by decide +kernel
theorem d2_20 : decode jdk_42_method_149_code 20 = .ok (.getfield 15, 3) := by decide +kernel
theorem d2_23 : decode jdk_42_method_149_code 23 = .ok (.putfield 15, 3) := by decide +kernel
theorem d2_26 : decode jdk_42_method_149_code 26 = .ok (.return_, 1) := by decide +kernel
theorem pn_java_lang_String : plainName "java/lang/String" = true := by first | (simp [plainName, overriddenIn]; done) | decide +kernel
abbrev RMrmS4e : Room := { frames := 1, cells := 4, slots := 8, locals := 12 }
theorem ef_rmS4e (m : MethodId) (a1 : Addr) (a2 : Addr) : entryFrame m #[(.ref a1), (.ref a2), (.int (0 : Int32)), (.int (0 : Int32)), .null] 6 = mkF m 0 #[.val (.ref a1), .val (.ref a2), .val (.int (0 : Int32)), .val (.int (0 : Int32)), .val .null, .unset] [] := by first | (simp [entryFrame, mkF, argsToLocals, Value.category]; done) | rfl
def QrmS4e (Z : State) (zc : Int32) (ko : Addr) (a1 : Addr) (a2 : Addr) (h0 : Heap) (v : Option Value) (h : Heap) (L : List Loc) : Prop := v = none ∧ Fr Z.heap.size L ∧ Keep h0 h [a1] ∧ IsStr Z h a1 []
set_option maxRecDepth 65536 in
set_option maxHeartbeats 40000000 in
theorem rmS4e (l : Launch) (Z : State) (a0 : Array Value) (hw : ∀ d ∈ tables_1, d.before a0 Z = true) (zc : Int32) (ko : Addr) (S_CS : Sta Z Z.heap "java/lang/String" "COMPACT_STRINGS" "Z" (.int zc)) (hzc : ¬ zc = 0) (S_FAILED : Sta Z Z.heap "com/example/holdfast/holdfast/provider/ProviderAnswer$Outcome" "FAILED" "Lcom/example/holdfast/holdfast/provider/ProviderAnswer$Outcome;" (.ref ko)) (hEL : EW Z a0 EL) (ws : List Jvm.Cond) (a1 : Addr) (a2 : Addr) (h0 : Heap) (O0 : Ext Z.heap h0) (E1 : Exa Z h0 a1 "java/lang/String") (Fv : Fld Z h0 a1 "java/lang/String" "value" "[B" .null) (Fc : Fld Z h0 a1 "java/lang/String" "coder" "B" (.int (0 : Int32))) (g1 : Z.heap.size ≤ a1) :
    MetFree l (⟨"java/lang/String", "<init>", "([CIILjava/lang/Void;)V"⟩ : MethodName) (head1 (Jvm.Cond.code (⟨"java/lang/String", "<init>", "([CIILjava/lang/Void;)V"⟩ : MethodName) jdk_42_method_149_code 6 none :: ws) RMrmS4e) (fun a U => a = #[(.ref a1), (.ref a2), (.int (0 : Int32)), (.int (0 : Int32)), .null] ∧ Z.Warmed39 U.vm ∧ U.heap = h0 ∧ CHv Z EL U.vm h0) (fun _ _ _ _ _ => True) (fun _ U o U' => ∃ v L, o = .returned v ∧ QrmS4e Z zc ko a1 a2 h0 v U'.heap L ∧ CHr Z EL U.vm U.heap U'.vm U'.heap ∧ ReturnedEndW U o U' L RMrmS4e.cells RMrmS4e.slots) := by
  refine MetFree.of_bodySF (plainFor_of_name pn_java_lang_String) hisR ?_
  intro p e s m args below meth c s₁ Bd hml0 hP hK
  obtain ⟨rfl, hZ, hh, hC0⟩ := hP
  have hx := Bd.exec
  have hby := Bd.bytes
  have hlk : meth.locks = false := BodyLoose.notSynchronized Bd
  have hret := Bd.returns
  have hml : c.maxLocals = 6 := hml0
  have hown : s.vm.findClass "java/lang/String" = some m.cls := findClass_of_methodNamed Bd.named
  have hnm := (name_of_methodNamed Bd.named Bd.method).1
  have X0 : Stand p l e RMrmS4e (s.setVm s.vm) m #[(.ref a1), (.ref a2), (.int (0 : Int32)), (.int (0 : Int32)), .null] below meth c s₁ [] 0 0 := Stand.of_body Bd
  have e0 : s₁.heap = h0 := by rw [← hh, Bd.state]; rfl
  have N0 := Fr.nil Z.heap.size
  have hZ : Z.Warmed39 (s.setVm s.vm).vm := hZ
  have hS0 : s.Since s.vm h0.size := (State.WarmedH.refl s).since _
  have hk0 : h0.size ≤ h0.size := Nat.le_refl _
  have HR0 : CHr Z EL s.vm h0 s.vm h0 := CHr.refl hC0
  have hwS : ∀ d ∈ Bundle.stringAtoms, d.before a0 Z = true := fun d hd => hw d (own_strAtoms d hd)
  show OEnd p e below (GW s Z EL (QrmS4e Z zc ko a1 a2 h0) RMrmS4e.cells RMrmS4e.slots) _
  refine OEnd.of (fun t k => castTop (ef_rmS4e m a1 a2) k) ?_
  have Sf40 : Safe Z EL s.vm h0 a1 := own_safeNull hZ.alike E1 Fv
  have lt41 : a1 < h0.size := (E1).lt
  refine OEnd.of (fun t k => XS.aloadN X0.here hx rfl (hb hby d2_0) rfl rfl k) ?_
  show OEnd p e below _ (s₁.setTop (mkF m 1 #[.val (.ref a1), .val (.ref a2), .val (.int (0 : Int32)), .val (.int (0 : Int32)), .val .null, .unset] [(.ref a1)]))
  obtain ⟨T42, X42, e42, st42⟩ := initO X0 hx hZ hown (hw _ (List.mem_of_getElem? (i := 11) rfl)) (hw _ (List.mem_of_getElem? (i := 12) rfl)) (hw _ (List.mem_of_getElem? (i := 13) rfl)) e0 (g := (mkF m 1 #[.val (.ref a1), .val (.ref a2), .val (.int (0 : Int32)), .val (.int (0 : Int32)), .val .null, .unset] [(.ref a1)])) rfl (by rw [hml]; rfl) rfl (hb hby d2_1) (by decide) (W := 0) (by show 2 * 0 + _ ≤ _; exact Nat.le_of_eq rfl) (by decide)
  refine OEnd.of st42 ?_
  show OEnd p e below _ (T42.setTop (mkF m 4 #[.val (.ref a1), .val (.ref a2), .val (.int (0 : Int32)), .val (.int (0 : Int32)), .val .null, .unset] []))
  refine OEnd.of (fun t k => XS.iloadN X42.here hx rfl (hb hby d2_4) rfl k) ?_
  show OEnd p e below _ (T42.setTop (mkF m 5 #[.val (.ref a1), .val (.ref a2), .val (.int (0 : Int32)), .val (.int (0 : Int32)), .val .null, .unset] [(.int (0 : Int32))]))
  refine OEnd.of (fun t k => XS.ifNo X42.here hx rfl (hb hby d2_5) rfl ((if0 _ _).trans (teq (by decide : ((0 : Int32) = (0 : Int32)))).2) k) ?_
  show OEnd p e below _ (T42.setTop (mkF m 8 #[.val (.ref a1), .val (.ref a2), .val (.int (0 : Int32)), .val (.int (0 : Int32)), .val .null, .unset] []))
  refine OEnd.of (fun t k => XS.aloadN X42.here hx rfl (hb hby d2_8) rfl rfl k) ?_
  show OEnd p e below _ (T42.setTop (mkF m 9 #[.val (.ref a1), .val (.ref a2), .val (.int (0 : Int32)), .val (.int (0 : Int32)), .val .null, .unset] [(.ref a1)]))
  obtain ⟨ba43, T43, h43, k143, bb43, kb43, X43, e43, E43, S43, hk43, hZ43, hown43, Ex43, Cd43, Vl43, Ar43, lta43, ltb43, C43, Lt43, Sn43, st43⟩ := ldcCH X42 hx hZ hown (hw _ (List.mem_of_getElem? (i := 84) rfl)) hwS e42 hS0 hk0 hEL (List.mem_of_getElem? (i := 0) rfl) HR0.1 (vs := []) (z := (0 : Int32)) own_lit_ (by decide) (by decide) (g := (mkF m 9 #[.val (.ref a1), .val (.ref a2), .val (.int (0 : Int32)), .val (.int (0 : Int32)), .val .null, .unset] [(.ref a1)])) rfl (hb hby d2_9) (n := 0) (by decide) (by decide) (by decide) (by decide)
  refine OEnd.of st43 ?_
  have CR44 : CHr Z EL s.vm h0 T43.vm h43 := C43
  have HR45 : CHr Z EL s.vm h0 T43.vm h43 := HR0.trans CR44
  have Sf46 : Safe Z EL T43.vm h43 a1 := CR44.safe lt41 Sf40
  show OEnd p e below _ (T43.setTop (mkF m 11 #[.val (.ref a1), .val (.ref a2), .val (.int (0 : Int32)), .val (.int (0 : Int32)), .val .null, .unset] [(.ref ba43), (.ref a1)]))
  obtain ⟨T47, X47, e47, st47⟩ := getF X43 hx hZ43 hown43 (host := "") (Or.inl (hw _ (List.mem_of_getElem? (i := 28) rfl))) Via.refl e43 Vl43 (g := (mkF m 11 #[.val (.ref a1), .val (.ref a2), .val (.int (0 : Int32)), .val (.int (0 : Int32)), .val .null, .unset] [(.ref ba43), (.ref a1)])) rfl rfl (hb hby d2_11)
  refine OEnd.of st47 ?_
  show OEnd p e below _ (T47.setTop (mkF m 14 #[.val (.ref a1), .val (.ref a2), .val (.int (0 : Int32)), .val (.int (0 : Int32)), .val .null, .unset] [(.ref bb43), (.ref a1)]))
  have K48 : Keep h0 h43 [] := ((Keep.refl h0 []).ext E43)
  obtain ⟨T49, h49, X49, e49, W49, st49⟩ := putF X47 hx hZ43 hown43 (host := "") (Or.inl (hw _ (List.mem_of_getElem? (i := 28) rfl))) Via.refl e47 (Fv.keep K48 nin0) (E1.keep K48) (Or.inr ⟨(hw _ (List.mem_of_getElem? (i := 29) rfl)), rfl, hnm⟩) (hw _ (List.mem_of_getElem? (i := 2) rfl)) (ty := (.array .byte)) (by decide) rfl rfl (g := (mkF m 14 #[.val (.ref a1), .val (.ref a2), .val (.int (0 : Int32)), .val (.int (0 : Int32)), .val .null, .unset] [(.ref bb43), (.ref a1)])) rfl rfl (hb hby d2_14)
  refine OEnd.of st49 ?_
  have F50 : Fld Z h49 a1 "java/lang/String" "value" "[B" (.ref bb43) := Fld.same W49 (Fv.keep K48 nin0)
  have E51 : Exa Z h49 a1 "java/lang/String" := (E1.keep K48).wr W49
  have F52 : Fld Z h49 a1 "java/lang/String" "coder" "B" (.int (0 : Int32)) := (Fc.keep K48 nin0).other W49 (Or.inr (slot_ne (Or.inr (hw _ (List.mem_of_getElem? (i := 27) rfl))) (Or.inr (hw _ (List.mem_of_getElem? (i := 29) rfl))) (by decide) (t := .byte) (t' := (.array .byte)) (by decide) (by decide)))
  have N53 := Fr.snoc X49 N0 g1
  have CR54 : CHr Z EL T43.vm h43 T43.vm h49 := CHr.wr W49 Sf46 HR45.1
  have HR55 : CHr Z EL s.vm h0 T43.vm h49 := HR45.trans CR54
  have Sf56 : Safe Z EL T43.vm h49 a1 := CR54.safe (Nat.lt_of_lt_of_le lt41 K48.1) Sf46
  show OEnd p e below _ (T49.setTop (mkF m 17 #[.val (.ref a1), .val (.ref a2), .val (.int (0 : Int32)), .val (.int (0 : Int32)), .val .null, .unset] []))
  refine OEnd.of (fun t k => XS.aloadN X49.here hx rfl (hb hby d2_17) rfl rfl k) ?_
  show OEnd p e below _ (T49.setTop (mkF m 18 #[.val (.ref a1), .val (.ref a2), .val (.int (0 : Int32)), .val (.int (0 : Int32)), .val .null, .unset] [(.ref a1)]))
  have K58 : Keep h43 h49 [a1] := ((Keep.refl h43 [a1]).wr W49 (Or.inl (List.mem_of_getElem? (i := 0) rfl)))
  obtain ⟨ba57, T57, h57, k157, bb57, kb57, X57, e57, E57, S57, hk57, hZ57, hown57, Ex57, Cd57, Vl57, Ar57, lta57, ltb57, C57, Lt57, Sn57, st57⟩ := ldcCH X49 hx hZ43 hown43 (hw _ (List.mem_of_getElem? (i := 84) rfl)) hwS e49 S43 (Nat.le_trans hk43 K58.1) hEL (List.mem_of_getElem? (i := 0) rfl) HR55.1 (vs := []) (z := (0 : Int32)) own_lit_ (by decide) (by decide) (g := (mkF m 18 #[.val (.ref a1), .val (.ref a2), .val (.int (0 : Int32)), .val (.int (0 : Int32)), .val .null, .unset] [(.ref a1)])) rfl (hb hby d2_18) (n := 0) (by decide) (by decide) (by decide) (by decide)
  refine OEnd.of st57 ?_
  have CR59 : CHr Z EL T43.vm h49 T57.vm h57 := C57
  have HR60 : CHr Z EL s.vm h0 T57.vm h57 := HR55.trans CR59
  have K61 : Keep h0 h49 [a1] := (((Keep.refl h0 [a1]).ext E43).wr W49 (Or.inl (List.mem_of_getElem? (i := 0) rfl)))
  have Sf62 : Safe Z EL T57.vm h57 a1 := CR59.safe (Nat.lt_of_lt_of_le lt41 K61.1) Sf56
  show OEnd p e below _ (T57.setTop (mkF m 20 #[.val (.ref a1), .val (.ref a2), .val (.int (0 : Int32)), .val (.int (0 : Int32)), .val .null, .unset] [(.ref ba57), (.ref a1)]))
  obtain ⟨T63, X63, e63, st63⟩ := getF X57 hx hZ57 hown57 (host := "") (Or.inl (hw _ (List.mem_of_getElem? (i := 26) rfl))) Via.refl e57 Cd57 (g := (mkF m 20 #[.val (.ref a1), .val (.ref a2), .val (.int (0 : Int32)), .val (.int (0 : Int32)), .val .null, .unset] [(.ref ba57), (.ref a1)])) rfl rfl (hb hby d2_20)
  refine OEnd.of st63 ?_
  show OEnd p e below _ (T63.setTop (mkF m 23 #[.val (.ref a1), .val (.ref a2), .val (.int (0 : Int32)), .val (.int (0 : Int32)), .val .null, .unset] [(.int (0 : Int32)), (.ref a1)]))
  have K64 : Keep h49 h57 [] := ((Keep.refl h49 []).ext E57)
  obtain ⟨T65, h65, X65, e65, W65, st65⟩ := putFN X63 hx hZ57 hown57 (hw _ (List.mem_of_getElem? (i := 26) rfl)) Via.refl e63 (F52.keep K64 nin0) (E51.keep K64) (Or.inr ⟨(hw _ (List.mem_of_getElem? (i := 27) rfl)), rfl, hnm⟩) (hw _ (List.mem_of_getElem? (i := 2) rfl)) (ty := .byte) (v' := (.int (0 : Int32))) (by decide) rfl (by decide) (g := (mkF m 23 #[.val (.ref a1), .val (.ref a2), .val (.int (0 : Int32)), .val (.int (0 : Int32)), .val .null, .unset] [(.int (0 : Int32)), (.ref a1)])) rfl rfl (hb hby d2_23)
  refine OEnd.of st65 ?_
  have F66 : Fld Z h65 a1 "java/lang/String" "coder" "B" (.int (0 : Int32)) := Fld.same W65 (F52.keep K64 nin0)
  have E67 : Exa Z h65 a1 "java/lang/String" := (E51.keep K64).wr W65
  have F68 : Fld Z h65 a1 "java/lang/String" "value" "[B" (.ref bb43) := (F50.keep K64 nin0).other W65 (Or.inr (slot_ne (Or.inr (hw _ (List.mem_of_getElem? (i := 29) rfl))) (Or.inr (hw _ (List.mem_of_getElem? (i := 27) rfl))) (by decide) (t := (.array .byte)) (t' := .byte) (by decide) (by decide)))
  have N69 := Fr.snoc X65 N53 g1
  have CR70 : CHr Z EL T57.vm h57 T57.vm h65 := CHr.wr W65 Sf62 HR60.1
  have HR71 : CHr Z EL s.vm h0 T57.vm h65 := HR60.trans CR70
  have K72 : Keep h0 h57 [a1] := (K61.ext E57)
  have Sf73 : Safe Z EL T57.vm h65 a1 := CR70.safe (Nat.lt_of_lt_of_le lt41 K72.1) Sf62
  show OEnd p e below _ (T65.setTop (mkF m 26 #[.val (.ref a1), .val (.ref a2), .val (.int (0 : Int32)), .val (.int (0 : Int32)), .val .null, .unset] []))
  have K74 : Keep h43 h65 [a1] := ((K58.ext E57).wr W65 (Or.inl (List.mem_of_getElem? (i := 0) rfl)))
  have K75 : Keep h0 h65 [a1] := (K72.wr W65 (Or.inl (List.mem_of_getElem? (i := 0) rfl)))
  have K76 : Keep h57 h65 [a1] := ((Keep.refl h57 [a1]).wr W65 (Or.inl (List.mem_of_getElem? (i := 0) rfl)))
  exact OEnd.retVW X65 hx hlk e65 hh S57 (Nat.le_trans hk57 K76.1) hEL hZ57 HR71 hret (hb hby d2_26) ⟨rfl, N69, K75, ⟨E67, F66, ⟨bb43, kb43, F68, (Ar43.keep K74 (ninS (Ne.symm (Sn43 _ Sf46).2) nin0))⟩, (fun _ q => nomatch q), by decide⟩⟩ (by decide) (by decide)
theorem pd_285bCIILjava2flang2fVoid3b29V : parseMethodDescriptor "([CIILjava/lang/Void;)V" = some ⟨[(.array .char), .int, .int, (.object "java/lang/Void")], none⟩ := by decide +kernel
theorem d1_0 : decode jdk_42_method_3_code 0 = .ok (.aload_n 0, 1) := by decide +kernel
theorem d1_1 : decode jdk_42_method_3_code 1 = .ok (.aload_n 1, 1) := by decide +kernel
theorem d1_2 : decode jdk_42_method_3_code 2 = .ok (.iconst 0, 1) := by decide +kernel
theorem d1_3 : decode jdk_42_method_3_code 3 = .ok (.aload_n 1, 1) := by decide +kernel
theorem d1_4 : decode jdk_42_method_3_code 4 = .ok (.arraylength, 1) := by decide +kernel
theorem d1_5 : decode jdk_42_method_3_code 5 = .ok (.aconst_null, 1) := by decide +kernel
theorem d1_6 : decode jdk_42_method_3_code 6 = .ok (.invokespecial 27, 3) := by decide +kernel
theorem d1_9 : decode jdk_42_method_3_code 9 = .ok (.return_, 1) := by decide +kernel
abbrev RMrmS1e : Room := { frames := 2, cells := 4, slots := 8, locals := 29 }
theorem ef_rmS1e (m : MethodId) (a1 : Addr) (a2 : Addr) : entryFrame m #[(.ref a1), (.ref a2)] 2 = mkF m 0 #[.val (.ref a1), .val (.ref a2)] [] := by first | (simp [entryFrame, mkF, argsToLocals, Value.category]; done) | rfl
def QrmS1e (Z : State) (zc : Int32) (ko : Addr) (a1 : Addr) (a2 : Addr) (kk : ClassId) (h0 : Heap) (v : Option Value) (h : Heap) (L : List Loc) : Prop := v = none ∧ Fr Z.heap.size L ∧ Keep h0 h [a1] ∧ IsStr Z h a1 []
set_option maxRecDepth 65536 in
set_option maxHeartbeats 40000000 in
theorem rmS1e (l : Launch) (Z : State) (a0 : Array Value) (hw : ∀ d ∈ tables_1, d.before a0 Z = true) (zc : Int32) (ko : Addr) (S_CS : Sta Z Z.heap "java/lang/String" "COMPACT_STRINGS" "Z" (.int zc)) (hzc : ¬ zc = 0) (S_FAILED : Sta Z Z.heap "com/example/holdfast/holdfast/provider/ProviderAnswer$Outcome" "FAILED" "Lcom/example/holdfast/holdfast/provider/ProviderAnswer$Outcome;" (.ref ko)) (hEL : EW Z a0 EL) (ws : List Jvm.Cond) (a1 : Addr) (a2 : Addr) (kk : ClassId) (h0 : Heap) (O0 : Ext Z.heap h0) (E1 : Exa Z h0 a1 "java/lang/String") (Fv : Fld Z h0 a1 "java/lang/String" "value" "[B" .null) (Fc : Fld Z h0 a1 "java/lang/String" "coder" "B" (.int (0 : Int32))) (g1 : Z.heap.size ≤ a1) (A2 : Arv Z h0 a2 kk .char (0 : Int32) [] (.int (0 : Int32))) :
    MetFree l (⟨"java/lang/String", "<init>", "([C)V"⟩ : MethodName) (head1 (Jvm.Cond.code (⟨"java/lang/String", "<init>", "([C)V"⟩ : MethodName) jdk_42_method_3_code 2 none :: ws) RMrmS1e) (fun a U => a = #[(.ref a1), (.ref a2)] ∧ Z.Warmed39 U.vm ∧ U.heap = h0 ∧ CHv Z EL U.vm h0) (fun _ _ _ _ _ => True) (fun _ U o U' => ∃ v L, o = .returned v ∧ QrmS1e Z zc ko a1 a2 kk h0 v U'.heap L ∧ CHr Z EL U.vm U.heap U'.vm U'.heap ∧ ReturnedEndW U o U' L RMrmS1e.cells RMrmS1e.slots) := by
  refine MetFree.of_bodySF (plainFor_of_name pn_java_lang_String) hisR ?_
  intro p e s m args below meth c s₁ Bd hml0 hP hK
  obtain ⟨rfl, hZ, hh, hC0⟩ := hP
  have hx := Bd.exec
  have hby := Bd.bytes
  have hlk : meth.locks = false := BodyLoose.notSynchronized Bd
  have hret := Bd.returns
  have hml : c.maxLocals = 2 := hml0
  have hown : s.vm.findClass "java/lang/String" = some m.cls := findClass_of_methodNamed Bd.named
  have hnm := (name_of_methodNamed Bd.named Bd.method).1
  have X0 : Stand p l e RMrmS1e (s.setVm s.vm) m #[(.ref a1), (.ref a2)] below meth c s₁ [] 0 0 := Stand.of_body Bd
  have e0 : s₁.heap = h0 := by rw [← hh, Bd.state]; rfl
  have N0 := Fr.nil Z.heap.size
  have hZ : Z.Warmed39 (s.setVm s.vm).vm := hZ
  have hS0 : s.Since s.vm h0.size := (State.WarmedH.refl s).since _
  have hk0 : h0.size ≤ h0.size := Nat.le_refl _
  have HR0 : CHr Z EL s.vm h0 s.vm h0 := CHr.refl hC0
  have hwS : ∀ d ∈ Bundle.stringAtoms, d.before a0 Z = true := fun d hd => hw d (own_strAtoms d hd)
  show OEnd p e below (GW s Z EL (QrmS1e Z zc ko a1 a2 kk h0) RMrmS1e.cells RMrmS1e.slots) _
  refine OEnd.of (fun t k => castTop (ef_rmS1e m a1 a2) k) ?_
  refine OEnd.of (fun t k => XS.aloadN X0.here hx rfl (hb hby d1_0) rfl rfl k) ?_
  show OEnd p e below _ (s₁.setTop (mkF m 1 #[.val (.ref a1), .val (.ref a2)] [(.ref a1)]))
  refine OEnd.of (fun t k => XS.aloadN X0.here hx rfl (hb hby d1_1) rfl rfl k) ?_
  show OEnd p e below _ (s₁.setTop (mkF m 2 #[.val (.ref a1), .val (.ref a2)] [(.ref a2), (.ref a1)]))
  refine OEnd.of (fun t k => XS.iconst X0.here hx rfl (hb hby d1_2) k) ?_
  show OEnd p e below _ (s₁.setTop (mkF m 3 #[.val (.ref a1), .val (.ref a2)] [(.int (0 : Int32)), (.ref a2), (.ref a1)]))
  refine OEnd.of (fun t k => XS.aloadN X0.here hx rfl (hb hby d1_3) rfl rfl k) ?_
  show OEnd p e below _ (s₁.setTop (mkF m 4 #[.val (.ref a1), .val (.ref a2)] [(.ref a2), (.int (0 : Int32)), (.ref a2), (.ref a1)]))
  have Vc77 := A2
  obtain ⟨cl77, Ar77, -, S77, N77, -, -⟩ := Vc77
  refine OEnd.of (X0.arraylength hx (by rw [e0]; exact Ar77.1) (State.isArrayOf_alike hZ.alike Ar77.2.1) (g := (mkF m 4 #[.val (.ref a1), .val (.ref a2)] [(.ref a2), (.int (0 : Int32)), (.ref a2), (.ref a1)])) rfl rfl (hb hby d1_4)) ?_
  rw [len_of S77 N77]
  show OEnd p e below _ (s₁.setTop (mkF m 5 #[.val (.ref a1), .val (.ref a2)] [(.int (0 : Int32)), (.int (0 : Int32)), (.ref a2), (.ref a1)]))
  refine OEnd.of (fun t k => XS.aconstNull X0.here hx rfl (hb hby d1_5) k) ?_
  show OEnd p e below _ (s₁.setTop (mkF m 6 #[.val (.ref a1), .val (.ref a2)] [.null, (.int (0 : Int32)), (.int (0 : Int32)), (.ref a2), (.ref a1)]))
  obtain ⟨_, vq78, ⟨T78, L78, k78, n78⟩, -, X78, S78, G78, ⟨Lc78, hQ78, l78, y78, z78, C78⟩, st78⟩ := X0.specialBackS hx (y := (⟨"java/lang/String", "<init>", "([CIILjava/lang/Void;)V"⟩ : MethodName)) rfl hown (mvT hZ (hw _ (List.mem_of_getElem? (i := 7) rfl))) (mvT hZ (hw _ (List.mem_of_getElem? (i := 8) rfl))) (mvT hZ (hw _ (List.mem_of_getElem? (i := 10) rfl))) (by decide) (backOfSH (W := 0) (rmS4e l Z a0 hw zc ko S_CS hzc S_FAILED hEL [] a1 a2 h0 O0 E1 Fv Fc g1) hZ (hw _ (List.mem_of_getElem? (i := 10) rfl)) (hw _ (List.mem_of_getElem? (i := 3) rfl)) (by decide) (by decide) hEL HR0.1) (g := (mkF m 6 #[.val (.ref a1), .val (.ref a2)] [.null, (.int (0 : Int32)), (.int (0 : Int32)), (.ref a2), (.ref a1)])) rfl (by rw [hml]; rfl) (Steps.refl _) (a := a1) (argsL := [(.ref a2), (.int (0 : Int32)), (.int (0 : Int32)), .null]) (rest := []) (lenOf pd_285bCIILjava2flang2fVoid3b29V rfl) rfl (by show 2 * 0 + _ ≤ _; exact Nat.le_of_eq rfl) (hb hby d1_6) (fun _ _ => ⟨rfl, e0, (by decide : 0 + 4 ≤ _), (by decide : 0 + 8 ≤ _)⟩)
  dsimp only [Pt.U, Pt.locs, Pt.cells, Pt.slots] at X78 l78 y78 z78 st78 hQ78 S78 G78 C78
  subst l78 y78 z78
  obtain ⟨h78, e78⟩ : ∃ z, T78.heap = z := ⟨_, rfl⟩
  rw [e78] at hQ78 C78
  obtain ⟨rfl, Nq78, Kq78, S_79⟩ := hQ78
  have N80 := Fr.app N0 Nq78
  obtain ⟨X78, S78, hZ78, hown78⟩ := rebS hS0 (by rw [e0]; exact hk0) X78 S78 G78 hZ hown
  have hk78 : T78.heap.size ≤ h78.size := by rw [e78]; exact Nat.le_refl _
  have CR81 : CHr Z EL s.vm h0 T78.vm h78 := C78
  have HR82 : CHr Z EL s.vm h0 T78.vm h78 := HR0.trans CR81
  refine OEnd.of (fun t k => st78.trans k) ?_
  show OEnd p e below _ (T78.setTop (mkF m 9 #[.val (.ref a1), .val (.ref a2)] []))
  have K83 : Keep h0 h78 [a1] := ((Keep.refl h0 [a1]).trans Kq78 (allS (Or.inl (List.mem_of_getElem? (i := 0) rfl)) all0))
  exact OEnd.retVW X78 hx hlk e78 hh S78 hk78 hEL hZ78 HR82 hret (hb hby d1_9) ⟨rfl, N80, K83, S_79⟩ (by decide) (by decide)
theorem d14_0 : decode jdk_43_method_3_code 0 = .ok (.iload_n 0, 1) := by decide +kernel
theorem d14_1 : decode jdk_43_method_3_code 1 = .ok (.sipush 255, 3) := by decide +kernel
theorem d14_4 : decode jdk_43_method_3_code 4 = .ok (.if_icmp .gt 7, 3) := by decide +kernel
theorem d14_7 : decode jdk_43_method_3_code 7 = .ok (.iconst 1, 1) := by decide +kernel
theorem d14_8 : decode jdk_43_method_3_code 8 = .ok (.goto 4, 3) := by decide +kernel
theorem d14_12 : decode jdk_43_method_3_code 12 = .ok (.ireturn, 1) := by decide +kernel
theorem pn_java_lang_StringLatin1 : plainName "java/lang/StringLatin1" = true := by first | (simp [plainName, overriddenIn]; done) | decide +kernel
abbrev RMrmCan : Room := { frames := 0, cells := 0, slots := 0, locals := 0 }
theorem ef_rmCan (m : MethodId) (ch : Int32) : entryFrame m #[(.int ch)] 1 = mkF m 0 #[.val (.int ch)] [] := by first | (simp [entryFrame, mkF, argsToLocals, Value.category]; done) | rfl
def QrmCan (Z : State) (zc : Int32) (ko : Addr) (ch : Int32) (h0 : Heap) (v : Option Value) (h : Heap) (L : List Loc) : Prop := v = some (.int (1 : Int32)) ∧ Fr Z.heap.size L ∧ h = h0
set_option maxRecDepth 65536 in
set_option maxHeartbeats 40000000 in
theorem rmCan (l : Launch) (Z : State) (a0 : Array Value) (hw : ∀ d ∈ tables_1, d.before a0 Z = true) (zc : Int32) (ko : Addr) (S_CS : Sta Z Z.heap "java/lang/String" "COMPACT_STRINGS" "Z" (.int zc)) (hzc : ¬ zc = 0) (S_FAILED : Sta Z Z.heap "com/example/holdfast/holdfast/provider/ProviderAnswer$Outcome" "FAILED" "Lcom/example/holdfast/holdfast/provider/ProviderAnswer$Outcome;" (.ref ko)) (ws : List Jvm.Cond) (ch : Int32) (h0 : Heap) (O0 : Ext Z.heap h0) (hch_ch : ¬ ch < 0 ∧ ¬ (255 : Int32) < ch) :
    MetFree l (⟨"java/lang/StringLatin1", "canEncode", "(C)Z"⟩ : MethodName) (head1 (Jvm.Cond.code (⟨"java/lang/StringLatin1", "canEncode", "(C)Z"⟩ : MethodName) jdk_43_method_3_code 1 (some .boolean) :: ws) RMrmCan) (fun a U => a = #[(.int ch)] ∧ Z.Warmed39 U.vm ∧ U.heap = h0) (fun _ _ _ _ _ => True) (fun _ U o U' => ∃ v L, o = .returned v ∧ QrmCan Z zc ko ch h0 v U'.heap L ∧ FrameEnd U o U' L RMrmCan.cells RMrmCan.slots) := by
  refine MetFree.of_bodySF (plainFor_of_name pn_java_lang_StringLatin1) hisR ?_
  intro p e s m args below meth c s₁ Bd hml0 hP hK
  obtain ⟨rfl, hZ, hh⟩ := hP
  have hx := Bd.exec
  have hby := Bd.bytes
  have hlk : meth.locks = false := BodyLoose.notSynchronized Bd
  have hret := Bd.returns
  have hml : c.maxLocals = 1 := hml0
  have hown : s.vm.findClass "java/lang/StringLatin1" = some m.cls := findClass_of_methodNamed Bd.named
  have hnm := (name_of_methodNamed Bd.named Bd.method).1
  have X0 : Stand p l e RMrmCan s m #[(.int ch)] below meth c s₁ [] 0 0 := Stand.of_body Bd
  have e0 : s₁.heap = h0 := by rw [← hh, Bd.state]; rfl
  have N0 := Fr.nil Z.heap.size
  show OEnd p e below (GN s (QrmCan Z zc ko ch h0) RMrmCan.cells RMrmCan.slots) _
  refine OEnd.of (fun t k => castTop (ef_rmCan m ch) k) ?_
  refine OEnd.of (fun t k => XS.iloadN X0.here hx rfl (hb hby d14_0) rfl k) ?_
  show OEnd p e below _ (s₁.setTop (mkF m 1 #[.val (.int ch)] [(.int ch)]))
  refine OEnd.of (fun t k => XS.sipush X0.here hx rfl (hb hby d14_1) k) ?_
  show OEnd p e below _ (s₁.setTop (mkF m 4 #[.val (.int ch)] [(.int (255 : Int32)), (.int ch)]))
  refine OEnd.of (fun t k => XS.icmpNo X0.here hx rfl (hb hby d14_4) rfl (flt hch_ch.2).2.2.1 k) ?_
  show OEnd p e below _ (s₁.setTop (mkF m 7 #[.val (.int ch)] []))
  refine OEnd.of (fun t k => XS.iconst X0.here hx rfl (hb hby d14_7) k) ?_
  show OEnd p e below _ (s₁.setTop (mkF m 8 #[.val (.int ch)] [(.int (1 : Int32))]))
  refine OEnd.of (fun t k => XS.goto X0.here hx rfl (pc0 := 8) (pc' := 12) rfl (hb hby d14_8) (by decide) (by decide) k) ?_
  show OEnd p e below _ (s₁.setTop (mkF m 12 #[.val (.int ch)] [(.int (1 : Int32))]))
  exact OEnd.retN X0 hx hlk e0 (t := .boolean) hret (by simp) (hb hby d14_12) ⟨rfl, N0, rfl⟩ (by decide) (by decide)
theorem d15_0 : decode jdk_43_method_46_code 0 = .ok (.iconst 1, 1) := by decide +kernel
theorem d15_1 : decode jdk_43_method_46_code 1 = .ok (.newarray .byte, 2) := by decide +kernel
theorem d15_3 : decode jdk_43_method_46_code 3 = .ok (.dup, 1) := by decide +kernel
theorem d15_4 : decode jdk_43_method_46_code 4 = .ok (.iconst 0, 1) := by decide +kernel
theorem d15_5 : decode jdk_43_method_46_code 5 = .ok (.iload_n 0, 1) := by decide +kernel
theorem d15_6 : decode jdk_43_method_46_code 6 = .ok (.i2b, 1) := by decide +kernel
theorem d15_7 : decode jdk_43_method_46_code 7 = .ok (.bastore, 1) := by decide +kernel
theorem d15_8 : decode jdk_43_method_46_code 8 = .ok (.areturn, 1) := by decide +kernel
abbrev RMrmToB : Room := { frames := 0, cells := 1, slots := 1, locals := 0 }
theorem ef_rmToB (m : MethodId) (ch : Int32) : entryFrame m #[(.int ch)] 1 = mkF m 0 #[.val (.int ch)] [] := by first | (simp [entryFrame, mkF, argsToLocals, Value.category]; done) | rfl
def QrmToB (Z : State) (zc : Int32) (ko : Addr) (ch : Int32) (h0 : Heap) (v : Option Value) (h : Heap) (L : List Loc) : Prop := ∃ (t : Addr) (kb : ClassId), v = some (.ref t) ∧ Fr Z.heap.size L ∧ Keep h0 h [] ∧ Arv Z h t kb .byte (1 : Int32) [(.int (ch.toInt8.toInt32))] (.int (0 : Int32))
set_option maxRecDepth 65536 in
set_option maxHeartbeats 40000000 in
theorem rmToB (l : Launch) (Z : State) (a0 : Array Value) (hw : ∀ d ∈ tables_1, d.before a0 Z = true) (zc : Int32) (ko : Addr) (S_CS : Sta Z Z.heap "java/lang/String" "COMPACT_STRINGS" "Z" (.int zc)) (hzc : ¬ zc = 0) (S_FAILED : Sta Z Z.heap "com/example/holdfast/holdfast/provider/ProviderAnswer$Outcome" "FAILED" "Lcom/example/holdfast/holdfast/provider/ProviderAnswer$Outcome;" (.ref ko)) (ws : List Jvm.Cond) (ch : Int32) (h0 : Heap) (O0 : Ext Z.heap h0) :
    MetFree l (⟨"java/lang/StringLatin1", "toBytes", "(C)[B"⟩ : MethodName) (head1 (Jvm.Cond.code (⟨"java/lang/StringLatin1", "toBytes", "(C)[B"⟩ : MethodName) jdk_43_method_46_code 1 (some (.array .byte)) :: ws) RMrmToB) (fun a U => a = #[(.int ch)] ∧ Z.Warmed39 U.vm ∧ U.heap = h0) (fun _ _ _ _ _ => True) (fun _ U o U' => ∃ v L, o = .returned v ∧ QrmToB Z zc ko ch h0 v U'.heap L ∧ FrameEnd U o U' L RMrmToB.cells RMrmToB.slots) := by
  refine MetFree.of_bodySF (plainFor_of_name pn_java_lang_StringLatin1) hisR ?_
  intro p e s m args below meth c s₁ Bd hml0 hP hK
  obtain ⟨rfl, hZ, hh⟩ := hP
  have hx := Bd.exec
  have hby := Bd.bytes
  have hlk : meth.locks = false := BodyLoose.notSynchronized Bd
  have hret := Bd.returns
  have hml : c.maxLocals = 1 := hml0
  have hown : s.vm.findClass "java/lang/StringLatin1" = some m.cls := findClass_of_methodNamed Bd.named
  have hnm := (name_of_methodNamed Bd.named Bd.method).1
  have X0 : Stand p l e RMrmToB s m #[(.int ch)] below meth c s₁ [] 0 0 := Stand.of_body Bd
  have e0 : s₁.heap = h0 := by rw [← hh, Bd.state]; rfl
  have N0 := Fr.nil Z.heap.size
  show OEnd p e below (GN s (QrmToB Z zc ko ch h0) RMrmToB.cells RMrmToB.slots) _
  refine OEnd.of (fun t k => castTop (ef_rmToB m ch) k) ?_
  refine OEnd.of (fun t k => XS.iconst X0.here hx rfl (hb hby d15_0) k) ?_
  show OEnd p e below _ (s₁.setTop (mkF m 1 #[.val (.int ch)] [(.int (1 : Int32))]))
  obtain ⟨T84, h84, k84, X84, e84, E84, A84, st84⟩ := newP X0 hx hZ (hw _ (List.mem_of_getElem? (i := 19) rfl)) e0 (g := (mkF m 1 #[.val (.int ch)] [(.int (1 : Int32))])) rfl (hb hby d15_1) rfl (by decide) (cap := 1) (by decide) (by decide) (by decide) (by decide)
  obtain ⟨b84, g84⟩ : ∃ z, z = h0.size := ⟨_, rfl⟩
  rw [← g84] at A84 st84
  refine OEnd.of st84 ?_
  have V84 : Arv Z h84 b84 k84 .byte (1 : Int32) [(.int (0 : Int32))] (.int (0 : Int32)) := (Arv.new A84 (by decide)).pad (pad_rep [] (.int (0 : Int32)) 1)
  have f84 : Z.heap.size ≤ b84 := Nat.le_trans O0.1 (Nat.le_of_eq g84.symm)
  show OEnd p e below _ (T84.setTop (mkF m 3 #[.val (.int ch)] [(.ref b84)]))
  refine OEnd.of (fun t k => XS.dup X84.here hx rfl (hb hby d15_3) rfl rfl k) ?_
  show OEnd p e below _ (T84.setTop (mkF m 4 #[.val (.int ch)] [(.ref b84), (.ref b84)]))
  refine OEnd.of (fun t k => XS.iconst X84.here hx rfl (hb hby d15_4) k) ?_
  show OEnd p e below _ (T84.setTop (mkF m 5 #[.val (.int ch)] [(.int (0 : Int32)), (.ref b84), (.ref b84)]))
  refine OEnd.of (fun t k => XS.iloadN X84.here hx rfl (hb hby d15_5) rfl k) ?_
  show OEnd p e below _ (T84.setTop (mkF m 6 #[.val (.int ch)] [(.int ch), (.int (0 : Int32)), (.ref b84), (.ref b84)]))
  refine OEnd.of (fun t k => XS.i2b X84.here hx rfl (hb hby d15_6) rfl k) ?_
  show OEnd p e below _ (T84.setTop (mkF m 7 #[.val (.int ch)] [(.int (ch.toInt8.toInt32)), (.int (0 : Int32)), (.ref b84), (.ref b84)]))
  have Vc85 := V84
  obtain ⟨cl85, Ar85, q85, S85, N85, H85, G85⟩ := Vc85
  have hin85 : ¬ ((0 : Int32) < 0 ∨ cl85.slots.size ≤ ((0 : Int32)).toNatClampNeg) := inb_of S85 ⟨by decide, by decide⟩
  obtain ⟨T85, h85, X85, e85, W85, st85⟩ := stB X84 hx hZ e84 Ar85 (j := (0 : Int32)) hin85 (g := (mkF m 7 #[.val (.int ch)] [(.int (ch.toInt8.toInt32)), (.int (0 : Int32)), (.ref b84), (.ref b84)])) rfl rfl (hb hby d15_7)
  refine OEnd.of st85 ?_
  rw [own_nar8] at W85
  have V86 : Arv Z h85 b84 k84 .byte (1 : Int32) [(.int (ch.toInt8.toInt32))] (.int (0 : Int32)) := Arv.set Ar85 q85 S85 N85 H85 G85 (fits_nar_byte _) W85 0 rfl (Nat.le_of_ble_eq_true rfl)
  have N87 := Fr.snoc X85 N0 f84
  show OEnd p e below _ (T85.setTop (mkF m 8 #[.val (.int ch)] [(.ref b84)]))
  have K88 : Keep h0 h85 [] := (((Keep.refl h0 []).ext E84).wr W85 (Or.inr (Nat.le_of_eq g84.symm)))
  exact OEnd.retA X85 hx hlk e85 hret rfl rfl (hb hby d15_8) ⟨b84, k84, rfl, N87, K88, V86⟩ (by decide) (by decide)
theorem d16_0 : decode jdk_42_method_151_code 0 = .ok (.aload_n 0, 1) := by decide +kernel
theorem d16_1 : decode jdk_42_method_151_code 1 = .ok (.invokespecial 1, 3) := by decide +kernel
theorem d16_4 : decode jdk_42_method_151_code 4 = .ok (.aload_n 0, 1) := by decide +kernel
theorem d16_5 : decode jdk_42_method_151_code 5 = .ok (.aload_n 1, 1) := by decide +kernel
theorem d16_6 : decode jdk_42_method_151_code 6 = .ok (.putfield 9, 3) := by decide +kernel
theorem d16_9 : decode jdk_42_method_151_code 9 = .ok (.aload_n 0, 1) := by decide +kernel
theorem d16_10 : decode jdk_42_method_151_code 10 = .ok (.iload_n 2, 1) := by decide +kernel
theorem d16_11 : decode jdk_42_method_151_code 11 = .ok (.putfield 15, 3) := by decide +kernel
theorem d16_14 : decode jdk_42_method_151_code 14 = .ok (.return_, 1) := by decide +kernel
abbrev RMrmIBB : Room := { frames := 1, cells := 0, slots := 0, locals := 12 }
theorem ef_rmIBB (m : MethodId) (a1 : Addr) (a2 : Addr) : entryFrame m #[(.ref a1), (.ref a2), (.int (0 : Int32))] 3 = mkF m 0 #[.val (.ref a1), .val (.ref a2), .val (.int (0 : Int32))] [] := by first | (simp [entryFrame, mkF, argsToLocals, Value.category]; done) | rfl
def QrmIBB (Z : State) (zc : Int32) (ko : Addr) (a1 : Addr) (a2 : Addr) (h0 : Heap) (v : Option Value) (h : Heap) (L : List Loc) : Prop := v = none ∧ Fr Z.heap.size L ∧ Keep h0 h [a1] ∧ Exa Z h a1 "java/lang/String" ∧ Fld Z h a1 "java/lang/String" "value" "[B" (.ref a2) ∧ Fld Z h a1 "java/lang/String" "coder" "B" (.int (0 : Int32))
set_option maxRecDepth 65536 in
set_option maxHeartbeats 40000000 in
theorem rmIBB (l : Launch) (Z : State) (a0 : Array Value) (hw : ∀ d ∈ tables_1, d.before a0 Z = true) (zc : Int32) (ko : Addr) (S_CS : Sta Z Z.heap "java/lang/String" "COMPACT_STRINGS" "Z" (.int zc)) (hzc : ¬ zc = 0) (S_FAILED : Sta Z Z.heap "com/example/holdfast/holdfast/provider/ProviderAnswer$Outcome" "FAILED" "Lcom/example/holdfast/holdfast/provider/ProviderAnswer$Outcome;" (.ref ko)) (ws : List Jvm.Cond) (a1 : Addr) (a2 : Addr) (h0 : Heap) (O0 : Ext Z.heap h0) (E1 : Exa Z h0 a1 "java/lang/String") (Fv : Fld Z h0 a1 "java/lang/String" "value" "[B" .null) (Fc : Fld Z h0 a1 "java/lang/String" "coder" "B" (.int (0 : Int32))) (g1 : Z.heap.size ≤ a1) :
    MetFree l (⟨"java/lang/String", "<init>", "([BB)V"⟩ : MethodName) (head1 (Jvm.Cond.code (⟨"java/lang/String", "<init>", "([BB)V"⟩ : MethodName) jdk_42_method_151_code 3 none :: ws) RMrmIBB) (fun a U => a = #[(.ref a1), (.ref a2), (.int (0 : Int32))] ∧ Z.Warmed39 U.vm ∧ U.heap = h0) (fun _ _ _ _ _ => True) (fun _ U o U' => ∃ v L, o = .returned v ∧ QrmIBB Z zc ko a1 a2 h0 v U'.heap L ∧ FrameEnd U o U' L RMrmIBB.cells RMrmIBB.slots) := by
  refine MetFree.of_bodySF (plainFor_of_name pn_java_lang_String) hisR ?_
  intro p e s m args below meth c s₁ Bd hml0 hP hK
  obtain ⟨rfl, hZ, hh⟩ := hP
  have hx := Bd.exec
  have hby := Bd.bytes
  have hlk : meth.locks = false := BodyLoose.notSynchronized Bd
  have hret := Bd.returns
  have hml : c.maxLocals = 3 := hml0
  have hown : s.vm.findClass "java/lang/String" = some m.cls := findClass_of_methodNamed Bd.named
  have hnm := (name_of_methodNamed Bd.named Bd.method).1
  have X0 : Stand p l e RMrmIBB s m #[(.ref a1), (.ref a2), (.int (0 : Int32))] below meth c s₁ [] 0 0 := Stand.of_body Bd
  have e0 : s₁.heap = h0 := by rw [← hh, Bd.state]; rfl
  have N0 := Fr.nil Z.heap.size
  show OEnd p e below (GN s (QrmIBB Z zc ko a1 a2 h0) RMrmIBB.cells RMrmIBB.slots) _
  refine OEnd.of (fun t k => castTop (ef_rmIBB m a1 a2) k) ?_
  refine OEnd.of (fun t k => XS.aloadN X0.here hx rfl (hb hby d16_0) rfl rfl k) ?_
  show OEnd p e below _ (s₁.setTop (mkF m 1 #[.val (.ref a1), .val (.ref a2), .val (.int (0 : Int32))] [(.ref a1)]))
  obtain ⟨T89, X89, e89, st89⟩ := initO X0 hx hZ hown (hw _ (List.mem_of_getElem? (i := 11) rfl)) (hw _ (List.mem_of_getElem? (i := 12) rfl)) (hw _ (List.mem_of_getElem? (i := 13) rfl)) e0 (g := (mkF m 1 #[.val (.ref a1), .val (.ref a2), .val (.int (0 : Int32))] [(.ref a1)])) rfl (by rw [hml]; rfl) rfl (hb hby d16_1) (by decide) (W := 0) (by show 2 * 0 + _ ≤ _; exact Nat.le_of_eq rfl) (by decide)
  refine OEnd.of st89 ?_
  show OEnd p e below _ (T89.setTop (mkF m 4 #[.val (.ref a1), .val (.ref a2), .val (.int (0 : Int32))] []))
  refine OEnd.of (fun t k => XS.aloadN X89.here hx rfl (hb hby d16_4) rfl rfl k) ?_
  show OEnd p e below _ (T89.setTop (mkF m 5 #[.val (.ref a1), .val (.ref a2), .val (.int (0 : Int32))] [(.ref a1)]))
  refine OEnd.of (fun t k => XS.aloadN X89.here hx rfl (hb hby d16_5) rfl rfl k) ?_
  show OEnd p e below _ (T89.setTop (mkF m 6 #[.val (.ref a1), .val (.ref a2), .val (.int (0 : Int32))] [(.ref a2), (.ref a1)]))
  obtain ⟨T90, h90, X90, e90, W90, st90⟩ := putF X89 hx hZ hown (host := "") (Or.inl (hw _ (List.mem_of_getElem? (i := 28) rfl))) Via.refl e89 Fv E1 (Or.inr ⟨(hw _ (List.mem_of_getElem? (i := 29) rfl)), rfl, hnm⟩) (hw _ (List.mem_of_getElem? (i := 2) rfl)) (ty := (.array .byte)) (by decide) rfl rfl (g := (mkF m 6 #[.val (.ref a1), .val (.ref a2), .val (.int (0 : Int32))] [(.ref a2), (.ref a1)])) rfl rfl (hb hby d16_6)
  refine OEnd.of st90 ?_
  have F91 : Fld Z h90 a1 "java/lang/String" "value" "[B" (.ref a2) := Fld.same W90 Fv
  have E92 : Exa Z h90 a1 "java/lang/String" := E1.wr W90
  have F93 : Fld Z h90 a1 "java/lang/String" "coder" "B" (.int (0 : Int32)) := Fc.other W90 (Or.inr (slot_ne (Or.inr (hw _ (List.mem_of_getElem? (i := 27) rfl))) (Or.inr (hw _ (List.mem_of_getElem? (i := 29) rfl))) (by decide) (t := .byte) (t' := (.array .byte)) (by decide) (by decide)))
  have N94 := Fr.snoc X90 N0 g1
  show OEnd p e below _ (T90.setTop (mkF m 9 #[.val (.ref a1), .val (.ref a2), .val (.int (0 : Int32))] []))
  refine OEnd.of (fun t k => XS.aloadN X90.here hx rfl (hb hby d16_9) rfl rfl k) ?_
  show OEnd p e below _ (T90.setTop (mkF m 10 #[.val (.ref a1), .val (.ref a2), .val (.int (0 : Int32))] [(.ref a1)]))
  refine OEnd.of (fun t k => XS.iloadN X90.here hx rfl (hb hby d16_10) rfl k) ?_
  show OEnd p e below _ (T90.setTop (mkF m 11 #[.val (.ref a1), .val (.ref a2), .val (.int (0 : Int32))] [(.int (0 : Int32)), (.ref a1)]))
  obtain ⟨T95, h95, X95, e95, W95, st95⟩ := putFN X90 hx hZ hown (hw _ (List.mem_of_getElem? (i := 26) rfl)) Via.refl e90 F93 E92 (Or.inr ⟨(hw _ (List.mem_of_getElem? (i := 27) rfl)), rfl, hnm⟩) (hw _ (List.mem_of_getElem? (i := 2) rfl)) (ty := .byte) (v' := (.int (0 : Int32))) (by decide) rfl (by decide) (g := (mkF m 11 #[.val (.ref a1), .val (.ref a2), .val (.int (0 : Int32))] [(.int (0 : Int32)), (.ref a1)])) rfl rfl (hb hby d16_11)
  refine OEnd.of st95 ?_
  have F96 : Fld Z h95 a1 "java/lang/String" "coder" "B" (.int (0 : Int32)) := Fld.same W95 F93
  have E97 : Exa Z h95 a1 "java/lang/String" := E92.wr W95
  have F98 : Fld Z h95 a1 "java/lang/String" "value" "[B" (.ref a2) := F91.other W95 (Or.inr (slot_ne (Or.inr (hw _ (List.mem_of_getElem? (i := 29) rfl))) (Or.inr (hw _ (List.mem_of_getElem? (i := 27) rfl))) (by decide) (t := (.array .byte)) (t' := .byte) (by decide) (by decide)))
  have N99 := Fr.snoc X95 N94 g1
  show OEnd p e below _ (T95.setTop (mkF m 14 #[.val (.ref a1), .val (.ref a2), .val (.int (0 : Int32))] []))
  have K100 : Keep h0 h95 [a1] := (((Keep.refl h0 [a1]).wr W90 (Or.inl (List.mem_of_getElem? (i := 0) rfl))).wr W95 (Or.inl (List.mem_of_getElem? (i := 0) rfl)))
  exact OEnd.retV X95 hx hlk e95 hret (hb hby d16_14) ⟨rfl, N99, K100, E97, F98, F96⟩ (by decide) (by decide)
theorem pd_28C29Z : parseMethodDescriptor "(C)Z" = some ⟨[.char], some .boolean⟩ := by decide +kernel
theorem pd_28C295bB : parseMethodDescriptor "(C)[B" = some ⟨[.char], some (.array .byte)⟩ := by decide +kernel
theorem pd_285bBB29V : parseMethodDescriptor "([BB)V" = some ⟨[(.array .byte), .byte], none⟩ := by decide +kernel
theorem d13_0 : decode jdk_42_method_139_code 0 = .ok (.getstatic 38, 3) := by decide +kernel
theorem d13_3 : decode jdk_42_method_139_code 3 = .ok (.ifCond .eq 23, 3) := by decide +kernel
theorem d13_6 : decode jdk_42_method_139_code 6 = .ok (.iload_n 0, 1) := by decide +kernel
theorem d13_7 : decode jdk_42_method_139_code 7 = .ok (.invokestatic 1015, 3) := by decide +kernel
theorem d13_10 : decode jdk_42_method_139_code 10 = .ok (.ifCond .eq 16, 3) := by decide +kernel
theorem d13_13 : decode jdk_42_method_139_code 13 = .ok (.new 10, 3) := by decide +kernel
theorem d13_16 : decode jdk_42_method_139_code 16 = .ok (.dup, 1) := by decide +kernel
theorem d13_17 : decode jdk_42_method_139_code 17 = .ok (.iload_n 0, 1) := by decide +kernel
theorem d13_18 : decode jdk_42_method_139_code 18 = .ok (.invokestatic 1018, 3) := by decide +kernel
theorem d13_21 : decode jdk_42_method_139_code 21 = .ok (.iconst 0, 1) := by decide +kernel
theorem d13_22 : decode jdk_42_method_139_code 22 = .ok (.invokespecial 209, 3) := by decide +kernel
theorem d13_25 : decode jdk_42_method_139_code 25 = .ok (.areturn, 1) := by decide +kernel
abbrev RMrmVal : Room := { frames := 2, cells := 2, slots := 5, locals := 27 }
theorem ef_rmVal (m : MethodId) (ch : Int32) : entryFrame m #[(.int ch)] 1 = mkF m 0 #[.val (.int ch)] [] := by first | (simp [entryFrame, mkF, argsToLocals, Value.category]; done) | rfl
def QrmVal (Z : State) (zc : Int32) (ko : Addr) (ch : Int32) (h0 : Heap) (v : Option Value) (h : Heap) (L : List Loc) : Prop := ∃ (r : Addr), v = some (.ref r) ∧ Fr Z.heap.size L ∧ Keep h0 h [] ∧ IsStr Z h r [ch]
set_option maxRecDepth 65536 in
set_option maxHeartbeats 40000000 in
theorem rmVal (l : Launch) (Z : State) (a0 : Array Value) (hw : ∀ d ∈ tables_1, d.before a0 Z = true) (zc : Int32) (ko : Addr) (S_CS : Sta Z Z.heap "java/lang/String" "COMPACT_STRINGS" "Z" (.int zc)) (hzc : ¬ zc = 0) (S_FAILED : Sta Z Z.heap "com/example/holdfast/holdfast/provider/ProviderAnswer$Outcome" "FAILED" "Lcom/example/holdfast/holdfast/provider/ProviderAnswer$Outcome;" (.ref ko)) (ws : List Jvm.Cond) (ch : Int32) (h0 : Heap) (O0 : Ext Z.heap h0) (hch_ch : ¬ ch < 0 ∧ ¬ (255 : Int32) < ch) :
    MetFree l (⟨"java/lang/String", "valueOf", "(C)Ljava/lang/String;"⟩ : MethodName) (head1 (Jvm.Cond.code (⟨"java/lang/String", "valueOf", "(C)Ljava/lang/String;"⟩ : MethodName) jdk_42_method_139_code 1 (some (.object "java/lang/String")) :: ws) RMrmVal) (fun a U => a = #[(.int ch)] ∧ Z.Warmed39 U.vm ∧ U.heap = h0) (fun _ _ _ _ _ => True) (fun _ U o U' => ∃ v L, o = .returned v ∧ QrmVal Z zc ko ch h0 v U'.heap L ∧ FrameEnd U o U' L RMrmVal.cells RMrmVal.slots) := by
  refine MetFree.of_bodySF (plainFor_of_name pn_java_lang_String) hisR ?_
  intro p e s m args below meth c s₁ Bd hml0 hP hK
  obtain ⟨rfl, hZ, hh⟩ := hP
  have hx := Bd.exec
  have hby := Bd.bytes
  have hlk : meth.locks = false := BodyLoose.notSynchronized Bd
  have hret := Bd.returns
  have hml : c.maxLocals = 1 := hml0
  have hown : s.vm.findClass "java/lang/String" = some m.cls := findClass_of_methodNamed Bd.named
  have hnm := (name_of_methodNamed Bd.named Bd.method).1
  have X0 : Stand p l e RMrmVal s m #[(.int ch)] below meth c s₁ [] 0 0 := Stand.of_body Bd
  have e0 : s₁.heap = h0 := by rw [← hh, Bd.state]; rfl
  have N0 := Fr.nil Z.heap.size
  show OEnd p e below (GN s (QrmVal Z zc ko ch h0) RMrmVal.cells RMrmVal.slots) _
  refine OEnd.of (fun t k => castTop (ef_rmVal m ch) k) ?_
  obtain ⟨T101, X101, e101, st101⟩ := getS2 X0 hx hZ hown (host := "") (Or.inl (hw _ (List.mem_of_getElem? (i := 14) rfl))) Via.refl e0 (Sta.ext O0 S_CS) (g := (mkF m 0 #[.val (.int ch)] [])) rfl (hb hby d13_0)
  refine OEnd.of st101 ?_
  show OEnd p e below _ (T101.setTop (mkF m 3 #[.val (.int ch)] [(.int zc)]))
  refine OEnd.of (fun t k => XS.ifNo X101.here hx rfl (hb hby d13_3) rfl ((if0 _ _).trans (feq hzc).1) k) ?_
  show OEnd p e below _ (T101.setTop (mkF m 6 #[.val (.int ch)] []))
  refine OEnd.of (fun t k => XS.iloadN X101.here hx rfl (hb hby d13_6) rfl k) ?_
  show OEnd p e below _ (T101.setTop (mkF m 7 #[.val (.int ch)] [(.int ch)]))
  obtain ⟨_, _, ⟨T102, L102, k102, n102⟩, -, X102, ⟨Lc102, hQ102, l102, y102, z102⟩, st102⟩ := Jvm.LawKit.callS X101 hx (y := (⟨"java/lang/StringLatin1", "canEncode", "(C)Z"⟩ : MethodName)) hown (mvT hZ (hw _ (List.mem_of_getElem? (i := 73) rfl))) (mvT hZ (hw _ (List.mem_of_getElem? (i := 74) rfl))) (mvT hZ (hw _ (List.mem_of_getElem? (i := 75) rfl))) (mvT hZ (hw _ (List.mem_of_getElem? (i := 76) rfl))) (by decide) (backOf (W := 0) (rmCan l Z a0 hw zc ko S_CS hzc S_FAILED [] ch h0 O0 hch_ch) hZ (hw _ (List.mem_of_getElem? (i := 76) rfl)) (hw _ (List.mem_of_getElem? (i := 75) rfl)) (by decide) (by decide)) (g := (mkF m 7 #[.val (.int ch)] [(.int ch)])) rfl (by rw [hml]; rfl) (argsL := [(.int ch)]) (rest := []) (lenOf pd_28C29Z rfl) rfl (by show 2 * 0 + _ ≤ _; exact Nat.le_of_eq rfl) (hb hby d13_7) (fun _ _ => ⟨rfl, e101, (by decide : 0 + 0 ≤ _), (by decide : 0 + 0 ≤ _)⟩)
  dsimp only [Pt.U, Pt.locs, Pt.cells, Pt.slots] at X102 l102 y102 z102 st102 hQ102
  subst l102 y102 z102
  obtain ⟨rfl, Nq102, e102⟩ := hQ102
  have N103 := Fr.app N0 Nq102
  refine OEnd.of st102 ?_
  show OEnd p e below _ (T102.setTop (mkF m 10 #[.val (.int ch)] [(.int (1 : Int32))]))
  refine OEnd.of (fun t k => XS.ifNo X102.here hx rfl (hb hby d13_10) rfl ((if0 _ _).trans (feq (by decide : ¬ ((1 : Int32) = (0 : Int32)))).1) k) ?_
  show OEnd p e below _ (T102.setTop (mkF m 13 #[.val (.int ch)] []))
  obtain ⟨T104, h104, X104, e104, E104, A104, D104, -, st104⟩ := newO X102 hx hZ hown (hw _ (List.mem_of_getElem? (i := 77) rfl)) (hw _ (List.mem_of_getElem? (i := 2) rfl)) (hw _ (List.mem_of_getElem? (i := 3) rfl)) e102 (g := (mkF m 13 #[.val (.int ch)] [])) rfl (hb hby d13_13) (by decide) (by decide)
  obtain ⟨b104, g104⟩ : ∃ z, z = h0.size := ⟨_, rfl⟩
  rw [← g104] at A104 D104 st104
  refine OEnd.of st104 ?_
  have f104 : Z.heap.size ≤ b104 := Nat.le_trans O0.1 (Nat.le_of_eq g104.symm)
  have F105 : Fld Z h104 b104 "java/lang/String" "coder" "B" (.int (0 : Int32)) := D104 (Or.inr (hw _ (List.mem_of_getElem? (i := 27) rfl))) (ty := .byte) (by decide)
  have F106 : Fld Z h104 b104 "java/lang/String" "value" "[B" .null := D104 (Or.inr (hw _ (List.mem_of_getElem? (i := 29) rfl))) (ty := (.array .byte)) (by decide)
  show OEnd p e below _ (T104.setTop (mkF m 16 #[.val (.int ch)] [(.ref b104)]))
  refine OEnd.of (fun t k => XS.dup X104.here hx rfl (hb hby d13_16) rfl rfl k) ?_
  show OEnd p e below _ (T104.setTop (mkF m 17 #[.val (.int ch)] [(.ref b104), (.ref b104)]))
  refine OEnd.of (fun t k => XS.iloadN X104.here hx rfl (hb hby d13_17) rfl k) ?_
  show OEnd p e below _ (T104.setTop (mkF m 18 #[.val (.int ch)] [(.int ch), (.ref b104), (.ref b104)]))
  have K108 : Keep h0 h104 [] := ((Keep.refl h0 []).ext E104)
  have O109 : Ext Z.heap h104 := own_extKeep O0 K108 all0
  obtain ⟨_, _, ⟨T107, L107, k107, n107⟩, -, X107, ⟨Lc107, hQ107, l107, y107, z107⟩, st107⟩ := Jvm.LawKit.callS X104 hx (y := (⟨"java/lang/StringLatin1", "toBytes", "(C)[B"⟩ : MethodName)) hown (mvT hZ (hw _ (List.mem_of_getElem? (i := 78) rfl))) (mvT hZ (hw _ (List.mem_of_getElem? (i := 79) rfl))) (mvT hZ (hw _ (List.mem_of_getElem? (i := 75) rfl))) (mvT hZ (hw _ (List.mem_of_getElem? (i := 80) rfl))) (by decide) (backOf (W := 2) (rmToB l Z a0 hw zc ko S_CS hzc S_FAILED [] ch h104 O109 ) hZ (hw _ (List.mem_of_getElem? (i := 80) rfl)) (hw _ (List.mem_of_getElem? (i := 75) rfl)) (by decide) (by decide)) (g := (mkF m 18 #[.val (.int ch)] [(.int ch), (.ref b104), (.ref b104)])) rfl (by rw [hml]; rfl) (argsL := [(.int ch)]) (rest := [(.ref b104), (.ref b104)]) (lenOf pd_28C295bB rfl) rfl (by show 2 * 0 + _ ≤ _; exact Nat.le_of_eq rfl) (hb hby d13_18) (fun _ _ => ⟨rfl, e104, (by decide : 1 + 1 ≤ _), (by decide : 4 + 1 ≤ _)⟩)
  dsimp only [Pt.U, Pt.locs, Pt.cells, Pt.slots] at X107 l107 y107 z107 st107 hQ107
  subst l107 y107 z107
  obtain ⟨h107, e107⟩ : ∃ z, T107.heap = z := ⟨_, rfl⟩
  rw [e107] at hQ107
  obtain ⟨t_110, kb_111, rfl, Nq107, Kq107, A_112⟩ := hQ107
  have N113 := Fr.app N103 Nq107
  refine OEnd.of st107 ?_
  show OEnd p e below _ (T107.setTop (mkF m 21 #[.val (.int ch)] [(.ref t_110), (.ref b104), (.ref b104)]))
  refine OEnd.of (fun t k => XS.iconst X107.here hx rfl (hb hby d13_21) k) ?_
  show OEnd p e below _ (T107.setTop (mkF m 22 #[.val (.int ch)] [(.int (0 : Int32)), (.ref t_110), (.ref b104), (.ref b104)]))
  have K115 : Keep h104 h107 [] := ((Keep.refl h104 []).trans Kq107 all0)
  have O116 : Ext Z.heap h107 := own_extKeep O109 K115 all0
  obtain ⟨_, _, ⟨T114, L114, k114, n114⟩, -, X114, ⟨Lc114, hQ114, l114, y114, z114⟩, st114⟩ := X107.specialBack hx (y := (⟨"java/lang/String", "<init>", "([BB)V"⟩ : MethodName)) rfl hown (mvT hZ (hw _ (List.mem_of_getElem? (i := 81) rfl))) (mvT hZ (hw _ (List.mem_of_getElem? (i := 82) rfl))) (mvT hZ (hw _ (List.mem_of_getElem? (i := 83) rfl))) (by decide) (backOf (W := 1) (rmIBB l Z a0 hw zc ko S_CS hzc S_FAILED [] b104 t_110 h107 O116 (A104.keep K115) (F106.keep K115 nin0) (F105.keep K115 nin0) f104) hZ (hw _ (List.mem_of_getElem? (i := 83) rfl)) (hw _ (List.mem_of_getElem? (i := 3) rfl)) (by decide) (by decide)) (g := (mkF m 22 #[.val (.int ch)] [(.int (0 : Int32)), (.ref t_110), (.ref b104), (.ref b104)])) rfl (by rw [hml]; rfl) (Steps.refl _) (a := b104) (argsL := [(.ref t_110), (.int (0 : Int32))]) (rest := [(.ref b104)]) (lenOf pd_285bBB29V rfl) rfl (by show 2 * 0 + _ ≤ _; exact Nat.le_of_eq rfl) (hb hby d13_22) (fun _ _ => ⟨rfl, e107, (by decide : 2 + 0 ≤ _), (by decide : 5 + 0 ≤ _)⟩)
  dsimp only [Pt.U, Pt.locs, Pt.cells, Pt.slots] at X114 l114 y114 z114 st114 hQ114
  subst l114 y114 z114
  obtain ⟨h114, e114⟩ : ∃ z, T114.heap = z := ⟨_, rfl⟩
  rw [e114] at hQ114
  obtain ⟨rfl, Nq114, Kq114, E_117, V_118, C_119⟩ := hQ114
  have N120 := Fr.app N113 Nq114
  refine OEnd.of (fun t k => st114.trans k) ?_
  show OEnd p e below _ (T114.setTop (mkF m 25 #[.val (.int ch)] [(.ref b104)]))
  have K121 : Keep h107 h114 [b104] := ((Keep.refl h107 [b104]).trans Kq114 (allS (Or.inl (List.mem_of_getElem? (i := 0) rfl)) all0))
  have K122 : Keep h0 h114 [] := ((K108.trans Kq107 all0).trans Kq114 (allS (Or.inr (Nat.le_of_eq g104.symm)) all0))
  exact OEnd.retA X114 hx hlk e114 hret rfl rfl (hb hby d13_25) ⟨b104, rfl, N120, K122, ⟨E_117, C_119, ⟨t_110, kb_111, V_118, (A_112.keep K121 (ninS (Ne.symm (Exa.neArv (A104.keep K115) A_112 (hw _ (List.mem_of_getElem? (i := 2) rfl)))) nin0))⟩, (List.forall_mem_cons.mpr ⟨hch_ch, (fun _ q => nomatch q)⟩), Nat.le_of_ble_eq_true rfl⟩⟩ (by decide) (by decide)
theorem pd_28Ljava2flang2fString3b29Lcom2fexample2fholdfast2fholdfast2fprovider2fProviderAnswer3b : parseMethodDescriptor "(Ljava/lang/String;)Lcom/example/holdfast/holdfast/provider/ProviderAnswer;" = some ⟨[(.object "java/lang/String")], some (.object "com/example/holdfast/holdfast/provider/ProviderAnswer")⟩ := by decide +kernel
theorem pd_2829Lcom2fexample2fholdfast2fholdfast2fprovider2fProviderAnswer24Outcome3b : parseMethodDescriptor "()Lcom/example/holdfast/holdfast/provider/ProviderAnswer$Outcome;" = some ⟨[], some (.object "com/example/holdfast/holdfast/provider/ProviderAnswer$Outcome")⟩ := by decide +kernel
theorem pd_2829Ljava2flang2fString3b : parseMethodDescriptor "()Ljava/lang/String;" = some ⟨[], some (.object "java/lang/String")⟩ := by decide +kernel
theorem pd_285bC29V : parseMethodDescriptor "([C)V" = some ⟨[(.array .char)], none⟩ := by decide +kernel
theorem pd_28C29Ljava2flang2fString3b : parseMethodDescriptor "(C)Ljava/lang/String;" = some ⟨[.char], some (.object "java/lang/String")⟩ := by decide +kernel
theorem pn_com_example_holdfast_holdfast_provider_ProviderAnswerFailedPinLaw : plainName "com/example/holdfast/holdfast/provider/ProviderAnswerFailedPinLaw" = true := by first | (simp [plainName, overriddenIn]; done) | decide +kernel
theorem ef_rm0 (m : MethodId) (p0 : Int32) (p1 : Int32) (p2 : Int32) : entryFrame m #[(.int p0), (.int p1), (.int p2)] maxLocals = mkF m 0 #[.val (.int p0), .val (.int p1), .val (.int p2), .unset, .unset, .unset, .unset, .unset, .unset, .unset] [] := by first | (simp [entryFrame, mkF, argsToLocals, Value.category, maxLocals]; done) | rfl
def Qrm0 (Z : State) (zc : Int32) (ko : Addr) (p0 : Int32) (p1 : Int32) (p2 : Int32) (h0 : Heap) (v : Option Value) (h : Heap) (L : List Loc) : Prop := v = some (.int (1 : Int32)) ∧ Fr Z.heap.size L ∧ Keep h0 h []
set_option maxRecDepth 65536 in
set_option maxHeartbeats 40000000 in
theorem rm0 (l : Launch) (Z : State) (a0 : Array Value) (hw : ∀ d ∈ tables_1, d.before a0 Z = true) (zc : Int32) (ko : Addr) (S_CS : Sta Z Z.heap "java/lang/String" "COMPACT_STRINGS" "Z" (.int zc)) (hzc : ¬ zc = 0) (S_FAILED : Sta Z Z.heap "com/example/holdfast/holdfast/provider/ProviderAnswer$Outcome" "FAILED" "Lcom/example/holdfast/holdfast/provider/ProviderAnswer$Outcome;" (.ref ko)) (hEL : EW Z a0 EL) (ws : List Jvm.Cond) (p0 : Int32) (p1 : Int32) (p2 : Int32) (h0 : Heap) (O0 : Ext Z.heap h0) :
    MetFree l x (head1 (Jvm.Cond.code x code maxLocals ret :: ws) room_1) (fun a U => a = #[(.int p0), (.int p1), (.int p2)] ∧ Z.Warmed39 U.vm ∧ U.heap = h0 ∧ CHv Z EL U.vm h0) (fun _ _ _ _ _ => True) (fun _ U o U' => ∃ v L, o = .returned v ∧ Qrm0 Z zc ko p0 p1 p2 h0 v U'.heap L ∧ CHr Z EL U.vm U.heap U'.vm U'.heap ∧ ReturnedEndW U o U' L 24 1152) := by
  refine MetFree.of_bodySF (plainFor_of_name pn_com_example_holdfast_holdfast_provider_ProviderAnswerFailedPinLaw) hisR ?_
  intro p e s m args below meth c s₁ Bd hml0 hP hK
  obtain ⟨rfl, hZ, hh, hC0⟩ := hP
  have hx := Bd.exec
  have hby := Bd.bytes
  have hlk : meth.locks = false := BodyLoose.notSynchronized Bd
  have hret := Bd.returns
  have hml : c.maxLocals = 10 := hml0
  have hown : s.vm.findClass "com/example/holdfast/holdfast/provider/ProviderAnswerFailedPinLaw" = some m.cls := findClass_of_methodNamed Bd.named
  have hnm := (name_of_methodNamed Bd.named Bd.method).1
  have X0 : Stand p l e room_1 (s.setVm s.vm) m #[(.int p0), (.int p1), (.int p2)] below meth c s₁ [] 0 0 := Stand.of_body Bd
  have e0 : s₁.heap = h0 := by rw [← hh, Bd.state]; rfl
  have N0 := Fr.nil Z.heap.size
  have hZ : Z.Warmed39 (s.setVm s.vm).vm := hZ
  have hS0 : s.Since s.vm h0.size := (State.WarmedH.refl s).since _
  have hk0 : h0.size ≤ h0.size := Nat.le_refl _
  have HR0 : CHr Z EL s.vm h0 s.vm h0 := CHr.refl hC0
  have hwS : ∀ d ∈ Bundle.stringAtoms, d.before a0 Z = true := fun d hd => hw d (own_strAtoms d hd)
  show OEnd p e below (GW s Z EL (Qrm0 Z zc ko p0 p1 p2 h0) 24 1152) _
  refine OEnd.of (fun t k => castTop (ef_rm0 m p0 p1 p2) k) ?_
  refine OEnd.of (fun t k => XS.iloadN X0.here hx rfl (hb hby at_0) rfl k) ?_
  show OEnd p e below _ (s₁.setTop (mkF m 1 #[.val (.int p0), .val (.int p1), .val (.int p2), .unset, .unset, .unset, .unset, .unset, .unset, .unset] [(.int p0)]))
  refine OEnd.of (fun t k => XS.sipush X0.here hx rfl (hb hby at_1) k) ?_
  show OEnd p e below _ (s₁.setTop (mkF m 4 #[.val (.int p0), .val (.int p1), .val (.int p2), .unset, .unset, .unset, .unset, .unset, .unset, .unset] [(.int (255 : Int32)), (.int p0)]))
  refine OEnd.of (fun t k => XS.iand X0.here hx rfl (hb hby at_4) rfl k) ?_
  show OEnd p e below _ (s₁.setTop (mkF m 5 #[.val (.int p0), .val (.int p1), .val (.int p2), .unset, .unset, .unset, .unset, .unset, .unset, .unset] [(.int (p0 &&& (255 : Int32)))]))
  refine OEnd.of (fun t k => XS.i2c X0.here hx rfl (hb hby at_5) rfl k) ?_
  show OEnd p e below _ (s₁.setTop (mkF m 6 #[.val (.int p0), .val (.int p1), .val (.int p2), .unset, .unset, .unset, .unset, .unset, .unset, .unset] [(.int ((p0 &&& (255 : Int32)).toUInt32.toUInt16.toUInt32.toInt32))]))
  generalize q_ch123 : ((p0 &&& (255 : Int32)).toUInt32.toUInt16.toUInt32.toInt32) = ch123
  have hch_ch123 : ¬ ch123 < 0 ∧ ¬ (255 : Int32) < ch123 := own_ch q_ch123
  refine OEnd.of (fun t k => XS.istoreN X0.here hx rfl (hb hby at_6) rfl (l' := #[.val (.int p0), .val (.int p1), .val (.int p2), .val (.int ch123), .unset, .unset, .unset, .unset, .unset, .unset]) rfl k) ?_
  show OEnd p e below _ (s₁.setTop (mkF m 7 #[.val (.int p0), .val (.int p1), .val (.int p2), .val (.int ch123), .unset, .unset, .unset, .unset, .unset, .unset] []))
  refine OEnd.of (fun t k => XS.iloadN X0.here hx rfl (hb hby at_7) rfl k) ?_
  show OEnd p e below _ (s₁.setTop (mkF m 8 #[.val (.int p0), .val (.int p1), .val (.int p2), .val (.int ch123), .unset, .unset, .unset, .unset, .unset, .unset] [(.int p1)]))
  refine OEnd.of (fun t k => XS.sipush X0.here hx rfl (hb hby at_8) k) ?_
  show OEnd p e below _ (s₁.setTop (mkF m 11 #[.val (.int p0), .val (.int p1), .val (.int p2), .val (.int ch123), .unset, .unset, .unset, .unset, .unset, .unset] [(.int (255 : Int32)), (.int p1)]))
  refine OEnd.of (fun t k => XS.iand X0.here hx rfl (hb hby at_11) rfl k) ?_
  show OEnd p e below _ (s₁.setTop (mkF m 12 #[.val (.int p0), .val (.int p1), .val (.int p2), .val (.int ch123), .unset, .unset, .unset, .unset, .unset, .unset] [(.int (p1 &&& (255 : Int32)))]))
  refine OEnd.of (fun t k => XS.i2c X0.here hx rfl (hb hby at_12) rfl k) ?_
  show OEnd p e below _ (s₁.setTop (mkF m 13 #[.val (.int p0), .val (.int p1), .val (.int p2), .val (.int ch123), .unset, .unset, .unset, .unset, .unset, .unset] [(.int ((p1 &&& (255 : Int32)).toUInt32.toUInt16.toUInt32.toInt32))]))
  generalize q_ch124 : ((p1 &&& (255 : Int32)).toUInt32.toUInt16.toUInt32.toInt32) = ch124
  have hch_ch124 : ¬ ch124 < 0 ∧ ¬ (255 : Int32) < ch124 := own_ch q_ch124
  refine OEnd.of (fun t k => XS.istore X0.here hx rfl (hb hby at_13) rfl (l' := #[.val (.int p0), .val (.int p1), .val (.int p2), .val (.int ch123), .val (.int ch124), .unset, .unset, .unset, .unset, .unset]) rfl k) ?_
  show OEnd p e below _ (s₁.setTop (mkF m 15 #[.val (.int p0), .val (.int p1), .val (.int p2), .val (.int ch123), .val (.int ch124), .unset, .unset, .unset, .unset, .unset] []))
  refine OEnd.of (fun t k => XS.iconst X0.here hx rfl (hb hby at_15) k) ?_
  show OEnd p e below _ (s₁.setTop (mkF m 16 #[.val (.int p0), .val (.int p1), .val (.int p2), .val (.int ch123), .val (.int ch124), .unset, .unset, .unset, .unset, .unset] [(.int (0 : Int32))]))
  obtain ⟨T125, h125, k125, X125, e125, E125, A125, st125⟩ := newP X0 hx hZ (hw _ (List.mem_of_getElem? (i := 0) rfl)) e0 (g := (mkF m 16 #[.val (.int p0), .val (.int p1), .val (.int p2), .val (.int ch123), .val (.int ch124), .unset, .unset, .unset, .unset, .unset] [(.int (0 : Int32))])) rfl (hb hby at_16) rfl (by decide) (cap := 0) (by decide) (by decide) (by decide) (by decide)
  obtain ⟨b125, g125⟩ : ∃ z, z = h0.size := ⟨_, rfl⟩
  rw [← g125] at A125 st125
  refine OEnd.of st125 ?_
  have V125 : Arv Z h125 b125 k125 .char (0 : Int32) [] (.int (0 : Int32)) := (Arv.new A125 (by decide)).pad (pad_rep [] (.int (0 : Int32)) 0)
  have f125 : Z.heap.size ≤ b125 := Nat.le_trans O0.1 (Nat.le_of_eq g125.symm)
  have CR126 : CHr Z EL s.vm h0 s.vm h125 := CHr.ext E125 HR0.1
  have HR127 : CHr Z EL s.vm h0 s.vm h125 := HR0.trans CR126
  show OEnd p e below _ (T125.setTop (mkF m 18 #[.val (.int p0), .val (.int p1), .val (.int p2), .val (.int ch123), .val (.int ch124), .unset, .unset, .unset, .unset, .unset] [(.ref b125)]))
  refine OEnd.of (fun t k => XS.astore X125.here hx rfl (hb hby at_18) rfl rfl (l' := #[.val (.int p0), .val (.int p1), .val (.int p2), .val (.int ch123), .val (.int ch124), .val (.ref b125), .unset, .unset, .unset, .unset]) rfl k) ?_
  show OEnd p e below _ (T125.setTop (mkF m 20 #[.val (.int p0), .val (.int p1), .val (.int p2), .val (.int ch123), .val (.int ch124), .val (.ref b125), .unset, .unset, .unset, .unset] []))
  refine OEnd.of (fun t k => XS.iconst X125.here hx rfl (hb hby at_20) k) ?_
  show OEnd p e below _ (T125.setTop (mkF m 21 #[.val (.int p0), .val (.int p1), .val (.int p2), .val (.int ch123), .val (.int ch124), .val (.ref b125), .unset, .unset, .unset, .unset] [(.int (2 : Int32))]))
  have K129 : Keep h0 h125 [] := ((Keep.refl h0 []).ext E125)
  have O130 : Ext Z.heap h125 := own_extKeep O0 K129 all0
  obtain ⟨T128, h128, k128, X128, e128, E128, A128, st128⟩ := newP X125 hx hZ (hw _ (List.mem_of_getElem? (i := 0) rfl)) e125 (g := (mkF m 21 #[.val (.int p0), .val (.int p1), .val (.int p2), .val (.int ch123), .val (.int ch124), .val (.ref b125), .unset, .unset, .unset, .unset] [(.int (2 : Int32))])) rfl (hb hby at_21) rfl (by decide) (cap := 2) (by decide) (by decide) (by decide) (by decide)
  obtain ⟨b128, g128⟩ : ∃ z, z = h125.size := ⟨_, rfl⟩
  rw [← g128] at A128 st128
  refine OEnd.of st128 ?_
  have V128 : Arv Z h128 b128 k128 .char (2 : Int32) [(.int (0 : Int32)), (.int (0 : Int32))] (.int (0 : Int32)) := (Arv.new A128 (by decide)).pad (pad_rep [] (.int (0 : Int32)) 2)
  have f128 : Z.heap.size ≤ b128 := Nat.le_trans O130.1 (Nat.le_of_eq g128.symm)
  have CR131 : CHr Z EL s.vm h125 s.vm h128 := CHr.ext E128 HR127.1
  have HR132 : CHr Z EL s.vm h0 s.vm h128 := HR127.trans CR131
  show OEnd p e below _ (T128.setTop (mkF m 23 #[.val (.int p0), .val (.int p1), .val (.int p2), .val (.int ch123), .val (.int ch124), .val (.ref b125), .unset, .unset, .unset, .unset] [(.ref b128)]))
  refine OEnd.of (fun t k => XS.dup X128.here hx rfl (hb hby at_23) rfl rfl k) ?_
  show OEnd p e below _ (T128.setTop (mkF m 24 #[.val (.int p0), .val (.int p1), .val (.int p2), .val (.int ch123), .val (.int ch124), .val (.ref b125), .unset, .unset, .unset, .unset] [(.ref b128), (.ref b128)]))
  refine OEnd.of (fun t k => XS.iconst X128.here hx rfl (hb hby at_24) k) ?_
  show OEnd p e below _ (T128.setTop (mkF m 25 #[.val (.int p0), .val (.int p1), .val (.int p2), .val (.int ch123), .val (.int ch124), .val (.ref b125), .unset, .unset, .unset, .unset] [(.int (0 : Int32)), (.ref b128), (.ref b128)]))
  refine OEnd.of (fun t k => XS.iloadN X128.here hx rfl (hb hby at_25) rfl k) ?_
  show OEnd p e below _ (T128.setTop (mkF m 26 #[.val (.int p0), .val (.int p1), .val (.int p2), .val (.int ch123), .val (.int ch124), .val (.ref b125), .unset, .unset, .unset, .unset] [(.int ch123), (.int (0 : Int32)), (.ref b128), (.ref b128)]))
  have Vc133 := V128
  obtain ⟨cl133, Ar133, q133, S133, N133, H133, G133⟩ := Vc133
  have hin133 : ¬ ((0 : Int32) < 0 ∨ cl133.slots.size ≤ ((0 : Int32)).toNatClampNeg) := inb_of S133 ⟨by decide, by decide⟩
  obtain ⟨T133, h133, X133, e133, W133, st133⟩ := stC X128 hx hZ e128 Ar133 (j := (0 : Int32)) hin133 (g := (mkF m 26 #[.val (.int p0), .val (.int p1), .val (.int p2), .val (.int ch123), .val (.int ch124), .val (.ref b125), .unset, .unset, .unset, .unset] [(.int ch123), (.int (0 : Int32)), (.ref b128), (.ref b128)])) rfl rfl (hb hby at_26)
  refine OEnd.of st133 ?_
  rw [(own_narC hch_ch123)] at W133
  have V134 : Arv Z h133 b128 k128 .char (2 : Int32) [(.int ch123), (.int (0 : Int32))] (.int (0 : Int32)) := Arv.set Ar133 q133 S133 N133 H133 G133 ((own_narC hch_ch123) ▸ fits_nar_char _) W133 0 rfl (Nat.le_of_ble_eq_true rfl)
  have N135 := Fr.snoc X133 N0 f128
  have CR136 : CHr Z EL s.vm h128 s.vm h133 := CHr.wr W133 (own_safeArv hZ.alike V128 (by decide)) HR132.1
  have HR137 : CHr Z EL s.vm h0 s.vm h133 := HR132.trans CR136
  show OEnd p e below _ (T133.setTop (mkF m 27 #[.val (.int p0), .val (.int p1), .val (.int p2), .val (.int ch123), .val (.int ch124), .val (.ref b125), .unset, .unset, .unset, .unset] [(.ref b128)]))
  refine OEnd.of (fun t k => XS.dup X133.here hx rfl (hb hby at_27) rfl rfl k) ?_
  show OEnd p e below _ (T133.setTop (mkF m 28 #[.val (.int p0), .val (.int p1), .val (.int p2), .val (.int ch123), .val (.int ch124), .val (.ref b125), .unset, .unset, .unset, .unset] [(.ref b128), (.ref b128)]))
  refine OEnd.of (fun t k => XS.iconst X133.here hx rfl (hb hby at_28) k) ?_
  show OEnd p e below _ (T133.setTop (mkF m 29 #[.val (.int p0), .val (.int p1), .val (.int p2), .val (.int ch123), .val (.int ch124), .val (.ref b125), .unset, .unset, .unset, .unset] [(.int (1 : Int32)), (.ref b128), (.ref b128)]))
  refine OEnd.of (fun t k => XS.iload X133.here hx rfl (hb hby at_29) rfl k) ?_
  show OEnd p e below _ (T133.setTop (mkF m 31 #[.val (.int p0), .val (.int p1), .val (.int p2), .val (.int ch123), .val (.int ch124), .val (.ref b125), .unset, .unset, .unset, .unset] [(.int ch124), (.int (1 : Int32)), (.ref b128), (.ref b128)]))
  have Vc138 := V134
  obtain ⟨cl138, Ar138, q138, S138, N138, H138, G138⟩ := Vc138
  have hin138 : ¬ ((1 : Int32) < 0 ∨ cl138.slots.size ≤ ((1 : Int32)).toNatClampNeg) := inb_of S138 ⟨by decide, by decide⟩
  obtain ⟨T138, h138, X138, e138, W138, st138⟩ := stC X133 hx hZ e133 Ar138 (j := (1 : Int32)) hin138 (g := (mkF m 31 #[.val (.int p0), .val (.int p1), .val (.int p2), .val (.int ch123), .val (.int ch124), .val (.ref b125), .unset, .unset, .unset, .unset] [(.int ch124), (.int (1 : Int32)), (.ref b128), (.ref b128)])) rfl rfl (hb hby at_31)
  refine OEnd.of st138 ?_
  rw [(own_narC hch_ch124)] at W138
  have V139 : Arv Z h138 b128 k128 .char (2 : Int32) [(.int ch123), (.int ch124)] (.int (0 : Int32)) := Arv.set Ar138 q138 S138 N138 H138 G138 ((own_narC hch_ch124) ▸ fits_nar_char _) W138 1 rfl (Nat.le_of_ble_eq_true rfl)
  have N140 := Fr.snoc X138 N135 f128
  have CR141 : CHr Z EL s.vm h133 s.vm h138 := CHr.wr W138 (own_safeArv hZ.alike V134 (by decide)) HR137.1
  have HR142 : CHr Z EL s.vm h0 s.vm h138 := HR137.trans CR141
  show OEnd p e below _ (T138.setTop (mkF m 32 #[.val (.int p0), .val (.int p1), .val (.int p2), .val (.int ch123), .val (.int ch124), .val (.ref b125), .unset, .unset, .unset, .unset] [(.ref b128)]))
  refine OEnd.of (fun t k => XS.astore X138.here hx rfl (hb hby at_32) rfl rfl (l' := #[.val (.int p0), .val (.int p1), .val (.int p2), .val (.int ch123), .val (.int ch124), .val (.ref b125), .val (.ref b128), .unset, .unset, .unset]) rfl k) ?_
  show OEnd p e below _ (T138.setTop (mkF m 34 #[.val (.int p0), .val (.int p1), .val (.int p2), .val (.int ch123), .val (.int ch124), .val (.ref b125), .val (.ref b128), .unset, .unset, .unset] []))
  refine OEnd.of (fun t k => XS.iloadN X138.here hx rfl (hb hby at_34) rfl k) ?_
  show OEnd p e below _ (T138.setTop (mkF m 35 #[.val (.int p0), .val (.int p1), .val (.int p2), .val (.int ch123), .val (.int ch124), .val (.ref b125), .val (.ref b128), .unset, .unset, .unset] [(.int p2)]))
  refine OEnd.of (fun t k => XS.iconst X138.here hx rfl (hb hby at_35) k) ?_
  show OEnd p e below _ (T138.setTop (mkF m 36 #[.val (.int p0), .val (.int p1), .val (.int p2), .val (.int ch123), .val (.int ch124), .val (.ref b125), .val (.ref b128), .unset, .unset, .unset] [(.int (3 : Int32)), (.int p2)]))
  refine OEnd.of (fun t k => XS.iand X138.here hx rfl (hb hby at_36) rfl k) ?_
  show OEnd p e below _ (T138.setTop (mkF m 37 #[.val (.int p0), .val (.int p1), .val (.int p2), .val (.int ch123), .val (.int ch124), .val (.ref b125), .val (.ref b128), .unset, .unset, .unset] [(.int (p2 &&& (3 : Int32)))]))
  refine OEnd.of (fun t k => XS.istore X138.here hx rfl (hb hby at_37) rfl (l' := #[.val (.int p0), .val (.int p1), .val (.int p2), .val (.int ch123), .val (.int ch124), .val (.ref b125), .val (.ref b128), .val (.int (p2 &&& (3 : Int32))), .unset, .unset]) rfl k) ?_
  show OEnd p e below _ (T138.setTop (mkF m 39 #[.val (.int p0), .val (.int p1), .val (.int p2), .val (.int ch123), .val (.int ch124), .val (.ref b125), .val (.ref b128), .val (.int (p2 &&& (3 : Int32))), .unset, .unset] []))
  generalize q_xl143 : (p2 &&& (3 : Int32)) = xl143
  refine OEnd.of (fun t k => XS.iload X138.here hx rfl (hb hby at_39) rfl k) ?_
  show OEnd p e below _ (T138.setTop (mkF m 41 #[.val (.int p0), .val (.int p1), .val (.int p2), .val (.int ch123), .val (.int ch124), .val (.ref b125), .val (.ref b128), .val (.int xl143), .unset, .unset] [(.int xl143)]))
  have J144 : ∀ (vm144 : Vm) (T144 : State) (h144 : Heap) (Lo144 : List Loc) (rv8 : Value) (h_rv8 : rv8.isRef = true), Stand p l e room_1 (s.setVm vm144) m #[(.int p0), (.int p1), (.int p2)] below meth c T144 Lo144 10 26 → T144.heap = h144 → Fr Z.heap.size Lo144 → Keep h138 h144 [] → (∃ k0, s.Since vm144 k0 ∧ k0 ≤ h144.size) → Z.Warmed39 (s.setVm vm144).vm → (s.setVm vm144).vm.findClass "com/example/holdfast/holdfast/provider/ProviderAnswerFailedPinLaw" = some m.cls → CHr Z EL s.vm h0 vm144 h144 → OEnd p e below (GW s Z EL (Qrm0 Z zc ko p0 p1 p2 h0) 24 1152) (T144.setTop (mkF m 96 #[.val (.int p0), .val (.int p1), .val (.int p2), .val (.int ch123), .val (.int ch124), .val (.ref b125), .val (.ref b128), .val (.int xl143), .val rv8, .unset] [])) := by
    rintro vm144 T144 h144 Lo144 rv8 h_rv8 X144 e144 N144 Kj144 ⟨kk144, hS144, hk144⟩ hZ144 hown144 HR144
    show OEnd p e below _ (T144.setTop (mkF m 96 #[.val (.int p0), .val (.int p1), .val (.int p2), .val (.int ch123), .val (.int ch124), .val (.ref b125), .val (.ref b128), .val (.int xl143), .val rv8, .unset] []))
    refine OEnd.of (fun t k => XS.aload X144.here hx rfl (hb hby at_96) rfl h_rv8 k) ?_
    show OEnd p e below _ (T144.setTop (mkF m 98 #[.val (.int p0), .val (.int p1), .val (.int p2), .val (.int ch123), .val (.int ch124), .val (.ref b125), .val (.ref b128), .val (.int xl143), .val rv8, .unset] [rv8]))
    have K146 : Keep h125 h144 [] := (((((Keep.refl h125 []).ext E128).wr W133 (Or.inr (Nat.le_of_eq g128.symm))).wr W138 (Or.inr (Nat.le_of_eq g128.symm))).trans Kj144 all0)
    have O147 : Ext Z.heap h144 := own_extKeep O130 K146 all0
    obtain ⟨_, _, ⟨T145, L145, k145, n145⟩, -, X145, ⟨Lc145, hQ145, l145, y145, z145⟩, st145⟩ := Jvm.LawKit.callS X144 hx (y := (⟨"com/example/holdfast/holdfast/provider/ProviderAnswer", "failed", "(Ljava/lang/String;)Lcom/example/holdfast/holdfast/provider/ProviderAnswer;"⟩ : MethodName)) hown144 (mvT hZ144 (hw _ (List.mem_of_getElem? (i := 30) rfl))) (mvT hZ144 (hw _ (List.mem_of_getElem? (i := 31) rfl))) (mvT hZ144 (hw _ (List.mem_of_getElem? (i := 32) rfl))) (mvT hZ144 (hw _ (List.mem_of_getElem? (i := 33) rfl))) (by decide) (backOf (W := 0) (rmPAm l Z a0 hw zc ko S_CS hzc S_FAILED [] rv8 h144 O147 h_rv8) hZ144 (hw _ (List.mem_of_getElem? (i := 33) rfl)) (hw _ (List.mem_of_getElem? (i := 32) rfl)) (by decide) (by decide)) (g := (mkF m 98 #[.val (.int p0), .val (.int p1), .val (.int p2), .val (.int ch123), .val (.int ch124), .val (.ref b125), .val (.ref b128), .val (.int xl143), .val rv8, .unset] [rv8])) rfl (by rw [hml]; rfl) (argsL := [rv8]) (rest := []) (lenOf pd_28Ljava2flang2fString3b29Lcom2fexample2fholdfast2fholdfast2fprovider2fProviderAnswer3b rfl) rfl (by show 2 * 0 + _ ≤ _; exact Nat.le_of_eq rfl) (hb hby at_98) (fun _ _ => ⟨rfl, e144, (by decide : 10 + 1 ≤ _), (by decide : 26 + 3 ≤ _)⟩)
    dsimp only [Pt.U, Pt.locs, Pt.cells, Pt.slots] at X145 l145 y145 z145 st145 hQ145
    subst l145 y145 z145
    obtain ⟨h145, e145⟩ : ∃ z, T145.heap = z := ⟨_, rfl⟩
    rw [e145] at hQ145
    obtain ⟨r_148, rfl, Nq145, Kq145, E_149, Fo_150, Fi_151, Fd_152⟩ := hQ145
    have N153 := Fr.app N144 Nq145
    have CR154 : CHr Z EL vm144 h144 vm144 h145 := CHr.keep Kq145 all0 HR144.1
    have HR155 : CHr Z EL s.vm h0 vm144 h145 := HR144.trans CR154
    refine OEnd.of st145 ?_
    show OEnd p e below _ (T145.setTop (mkF m 101 #[.val (.int p0), .val (.int p1), .val (.int p2), .val (.int ch123), .val (.int ch124), .val (.ref b125), .val (.ref b128), .val (.int xl143), .val rv8, .unset] [(.ref r_148)]))
    refine OEnd.of (fun t k => XS.astore X145.here hx rfl (hb hby at_101) rfl rfl (l' := #[.val (.int p0), .val (.int p1), .val (.int p2), .val (.int ch123), .val (.int ch124), .val (.ref b125), .val (.ref b128), .val (.int xl143), .val rv8, .val (.ref r_148)]) (own_stV (P := fun zz0 => storeLocals #[.val (.int p0), .val (.int p1), .val (.int p2), .val (.int ch123), .val (.int ch124), .val (.ref b125), .val (.ref b128), .val (.int xl143), .val zz0, .unset] 9 (.ref r_148) = some #[.val (.int p0), .val (.int p1), .val (.int p2), .val (.int ch123), .val (.int ch124), .val (.ref b125), .val (.ref b128), .val (.int xl143), .val zz0, .val (.ref r_148)]) h_rv8 rfl (fun aa0 => rfl)) k) ?_
    show OEnd p e below _ (T145.setTop (mkF m 103 #[.val (.int p0), .val (.int p1), .val (.int p2), .val (.int ch123), .val (.int ch124), .val (.ref b125), .val (.ref b128), .val (.int xl143), .val rv8, .val (.ref r_148)] []))
    refine OEnd.of (fun t k => XS.aload X145.here hx rfl (hb hby at_103) rfl rfl k) ?_
    show OEnd p e below _ (T145.setTop (mkF m 105 #[.val (.int p0), .val (.int p1), .val (.int p2), .val (.int ch123), .val (.int ch124), .val (.ref b125), .val (.ref b128), .val (.int xl143), .val rv8, .val (.ref r_148)] [(.ref r_148)]))
    refine OEnd.of (fun t k => XS.ifnonnullYes X145.here hx rfl (pc0 := 105) (pc' := 110) rfl (hb hby at_105) rfl (by decide) (by decide) k) ?_
    show OEnd p e below _ (T145.setTop (mkF m 110 #[.val (.int p0), .val (.int p1), .val (.int p2), .val (.int ch123), .val (.int ch124), .val (.ref b125), .val (.ref b128), .val (.int xl143), .val rv8, .val (.ref r_148)] []))
    refine OEnd.of (fun t k => XS.aload X145.here hx rfl (hb hby at_110) rfl rfl k) ?_
    show OEnd p e below _ (T145.setTop (mkF m 112 #[.val (.int p0), .val (.int p1), .val (.int p2), .val (.int ch123), .val (.int ch124), .val (.ref b125), .val (.ref b128), .val (.int xl143), .val rv8, .val (.ref r_148)] [(.ref r_148)]))
    have K157 : Keep h144 h145 [] := ((Keep.refl h144 []).trans Kq145 all0)
    have O158 : Ext Z.heap h145 := own_extKeep O147 K157 all0
    obtain ⟨cq156, kq156, q156a, q156b, q156c⟩ := isOf hZ144 e145 E_149
    obtain ⟨_, _, ⟨T156, L156, k156, n156⟩, -, X156, ⟨Lc156, hQ156, l156, y156, z156⟩, st156⟩ := X145.virtualBack hx (y := (⟨"com/example/holdfast/holdfast/provider/ProviderAnswer", "outcome", "()Lcom/example/holdfast/holdfast/provider/ProviderAnswer$Outcome;"⟩ : MethodName)) (z := (⟨"com/example/holdfast/holdfast/provider/ProviderAnswer", "outcome", "()Lcom/example/holdfast/holdfast/provider/ProviderAnswer$Outcome;"⟩ : MethodName)) hown144 (mvT hZ144 (hw _ (List.mem_of_getElem? (i := 54) rfl))) (mvT hZ144 (hw _ (List.mem_of_getElem? (i := 55) rfl))) (notFace_of_selects (args := #[]) (mvT hZ144 (hw _ (List.mem_of_getElem? (i := 57) rfl)))) (mvT hZ144 (hw _ (List.mem_of_getElem? (i := 57) rfl))) (mvT hZ144 (hw _ (List.mem_of_getElem? (i := 56) rfl))) (by decide) (backOf (W := 0) (rmPAo l Z a0 hw zc ko S_CS hzc S_FAILED [] r_148 ko h145 O158 Fo_150) hZ144 (hw _ (List.mem_of_getElem? (i := 58) rfl)) (hw _ (List.mem_of_getElem? (i := 32) rfl)) (by decide) (by decide)) q156a q156c (g := (mkF m 112 #[.val (.int p0), .val (.int p1), .val (.int p2), .val (.int ch123), .val (.int ch124), .val (.ref b125), .val (.ref b128), .val (.int xl143), .val rv8, .val (.ref r_148)] [(.ref r_148)])) rfl (by rw [hml]; rfl) (Steps.refl _) (argsL := []) (rest := []) (lenOf pd_2829Lcom2fexample2fholdfast2fholdfast2fprovider2fProviderAnswer24Outcome3b rfl) rfl (by show 2 * 0 + _ ≤ _; exact Nat.le_of_eq rfl) (hb hby at_112) (fun _ _ => ⟨rfl, e145, (by decide : 11 + 0 ≤ _), (by decide : 29 + 0 ≤ _)⟩)
    dsimp only [Pt.U, Pt.locs, Pt.cells, Pt.slots] at X156 l156 y156 z156 st156 hQ156
    subst l156 y156 z156
    obtain ⟨rfl, Nq156, e156⟩ := hQ156
    have N159 := Fr.app N153 Nq156
    refine OEnd.of (fun t k => st156.trans k) ?_
    show OEnd p e below _ (T156.setTop (mkF m 115 #[.val (.int p0), .val (.int p1), .val (.int p2), .val (.int ch123), .val (.int ch124), .val (.ref b125), .val (.ref b128), .val (.int xl143), .val rv8, .val (.ref r_148)] [(.ref ko)]))
    obtain ⟨T160, X160, e160, st160⟩ := getS2 X156 hx hZ144 hown144 (host := "") (Or.inl (hw _ (List.mem_of_getElem? (i := 59) rfl))) Via.refl e156 (Sta.ext O158 S_FAILED) (g := (mkF m 115 #[.val (.int p0), .val (.int p1), .val (.int p2), .val (.int ch123), .val (.int ch124), .val (.ref b125), .val (.ref b128), .val (.int xl143), .val rv8, .val (.ref r_148)] [(.ref ko)])) rfl (hb hby at_115)
    refine OEnd.of st160 ?_
    show OEnd p e below _ (T160.setTop (mkF m 118 #[.val (.int p0), .val (.int p1), .val (.int p2), .val (.int ch123), .val (.int ch124), .val (.ref b125), .val (.ref b128), .val (.int xl143), .val rv8, .val (.ref r_148)] [(.ref ko), (.ref ko)]))
    refine OEnd.of (fun t k => Jvm.RoadKit.acmp (g := (mkF m 118 #[.val (.int p0), .val (.int p1), .val (.int p2), .val (.int ch123), .val (.int ch124), .val (.ref b125), .val (.ref b128), .val (.int xl143), .val rv8, .val (.ref r_148)] [(.ref ko), (.ref ko)])) X160 hx rfl rfl rfl (pc0 := 118) (pc' := 121) (same := true) rfl (hb hby at_118) rfl (decide_eq_true rfl) (by decide) (by decide) k) ?_
    show OEnd p e below _ (T160.setTop (mkF m 121 #[.val (.int p0), .val (.int p1), .val (.int p2), .val (.int ch123), .val (.int ch124), .val (.ref b125), .val (.ref b128), .val (.int xl143), .val rv8, .val (.ref r_148)] []))
    refine OEnd.of (fun t k => XS.aload X160.here hx rfl (hb hby at_121) rfl rfl k) ?_
    show OEnd p e below _ (T160.setTop (mkF m 123 #[.val (.int p0), .val (.int p1), .val (.int p2), .val (.int ch123), .val (.int ch124), .val (.ref b125), .val (.ref b128), .val (.int xl143), .val rv8, .val (.ref r_148)] [(.ref r_148)]))
    obtain ⟨cq161, kq161, q161a, q161b, q161c⟩ := isOf hZ144 e160 E_149
    obtain ⟨_, _, ⟨T161, L161, k161, n161⟩, -, X161, ⟨Lc161, hQ161, l161, y161, z161⟩, st161⟩ := X160.virtualBack hx (y := (⟨"com/example/holdfast/holdfast/provider/ProviderAnswer", "id", "()Ljava/lang/String;"⟩ : MethodName)) (z := (⟨"com/example/holdfast/holdfast/provider/ProviderAnswer", "id", "()Ljava/lang/String;"⟩ : MethodName)) hown144 (mvT hZ144 (hw _ (List.mem_of_getElem? (i := 60) rfl))) (mvT hZ144 (hw _ (List.mem_of_getElem? (i := 61) rfl))) (notFace_of_selects (args := #[]) (mvT hZ144 (hw _ (List.mem_of_getElem? (i := 63) rfl)))) (mvT hZ144 (hw _ (List.mem_of_getElem? (i := 63) rfl))) (mvT hZ144 (hw _ (List.mem_of_getElem? (i := 62) rfl))) (by decide) (backOf (W := 0) (rmPAd l Z a0 hw zc ko S_CS hzc S_FAILED [] r_148 h145 O158 Fi_151) hZ144 (hw _ (List.mem_of_getElem? (i := 64) rfl)) (hw _ (List.mem_of_getElem? (i := 32) rfl)) (by decide) (by decide)) q161a q161c (g := (mkF m 123 #[.val (.int p0), .val (.int p1), .val (.int p2), .val (.int ch123), .val (.int ch124), .val (.ref b125), .val (.ref b128), .val (.int xl143), .val rv8, .val (.ref r_148)] [(.ref r_148)])) rfl (by rw [hml]; rfl) (Steps.refl _) (argsL := []) (rest := []) (lenOf pd_2829Ljava2flang2fString3b rfl) rfl (by show 2 * 0 + _ ≤ _; exact Nat.le_of_eq rfl) (hb hby at_123) (fun _ _ => ⟨rfl, e160, (by decide : 11 + 0 ≤ _), (by decide : 29 + 0 ≤ _)⟩)
    dsimp only [Pt.U, Pt.locs, Pt.cells, Pt.slots] at X161 l161 y161 z161 st161 hQ161
    subst l161 y161 z161
    obtain ⟨rfl, Nq161, e161⟩ := hQ161
    have N162 := Fr.app N159 Nq161
    refine OEnd.of (fun t k => st161.trans k) ?_
    show OEnd p e below _ (T161.setTop (mkF m 126 #[.val (.int p0), .val (.int p1), .val (.int p2), .val (.int ch123), .val (.int ch124), .val (.ref b125), .val (.ref b128), .val (.int xl143), .val rv8, .val (.ref r_148)] [.null]))
    refine OEnd.of (fun t k => XS.ifnonnullNo X161.here hx rfl (hb hby at_126) rfl k) ?_
    show OEnd p e below _ (T161.setTop (mkF m 129 #[.val (.int p0), .val (.int p1), .val (.int p2), .val (.int ch123), .val (.int ch124), .val (.ref b125), .val (.ref b128), .val (.int xl143), .val rv8, .val (.ref r_148)] []))
    refine OEnd.of (fun t k => XS.aload X161.here hx rfl (hb hby at_129) rfl rfl k) ?_
    show OEnd p e below _ (T161.setTop (mkF m 131 #[.val (.int p0), .val (.int p1), .val (.int p2), .val (.int ch123), .val (.int ch124), .val (.ref b125), .val (.ref b128), .val (.int xl143), .val rv8, .val (.ref r_148)] [(.ref r_148)]))
    obtain ⟨cq163, kq163, q163a, q163b, q163c⟩ := isOf hZ144 e161 E_149
    obtain ⟨_, _, ⟨T163, L163, k163, n163⟩, -, X163, ⟨Lc163, hQ163, l163, y163, z163⟩, st163⟩ := X161.virtualBack hx (y := (⟨"com/example/holdfast/holdfast/provider/ProviderAnswer", "detail", "()Ljava/lang/String;"⟩ : MethodName)) (z := (⟨"com/example/holdfast/holdfast/provider/ProviderAnswer", "detail", "()Ljava/lang/String;"⟩ : MethodName)) hown144 (mvT hZ144 (hw _ (List.mem_of_getElem? (i := 65) rfl))) (mvT hZ144 (hw _ (List.mem_of_getElem? (i := 66) rfl))) (notFace_of_selects (args := #[]) (mvT hZ144 (hw _ (List.mem_of_getElem? (i := 68) rfl)))) (mvT hZ144 (hw _ (List.mem_of_getElem? (i := 68) rfl))) (mvT hZ144 (hw _ (List.mem_of_getElem? (i := 67) rfl))) (by decide) (backOf (W := 0) (rmPAe l Z a0 hw zc ko S_CS hzc S_FAILED [] r_148 rv8 h145 O158 Fd_152 h_rv8) hZ144 (hw _ (List.mem_of_getElem? (i := 69) rfl)) (hw _ (List.mem_of_getElem? (i := 32) rfl)) (by decide) (by decide)) q163a q163c (g := (mkF m 131 #[.val (.int p0), .val (.int p1), .val (.int p2), .val (.int ch123), .val (.int ch124), .val (.ref b125), .val (.ref b128), .val (.int xl143), .val rv8, .val (.ref r_148)] [(.ref r_148)])) rfl (by rw [hml]; rfl) (Steps.refl _) (argsL := []) (rest := []) (lenOf pd_2829Ljava2flang2fString3b rfl) rfl (by show 2 * 0 + _ ≤ _; exact Nat.le_of_eq rfl) (hb hby at_131) (fun _ _ => ⟨rfl, e161, (by decide : 11 + 0 ≤ _), (by decide : 29 + 0 ≤ _)⟩)
    dsimp only [Pt.U, Pt.locs, Pt.cells, Pt.slots] at X163 l163 y163 z163 st163 hQ163
    subst l163 y163 z163
    obtain ⟨rfl, Nq163, e163⟩ := hQ163
    have N164 := Fr.app N162 Nq163
    refine OEnd.of (fun t k => st163.trans k) ?_
    show OEnd p e below _ (T163.setTop (mkF m 134 #[.val (.int p0), .val (.int p1), .val (.int p2), .val (.int ch123), .val (.int ch124), .val (.ref b125), .val (.ref b128), .val (.int xl143), .val rv8, .val (.ref r_148)] [rv8]))
    refine OEnd.of (fun t k => XS.aload X163.here hx rfl (hb hby at_134) rfl h_rv8 k) ?_
    show OEnd p e below _ (T163.setTop (mkF m 136 #[.val (.int p0), .val (.int p1), .val (.int p2), .val (.int ch123), .val (.int ch124), .val (.ref b125), .val (.ref b128), .val (.int xl143), .val rv8, .val (.ref r_148)] [rv8, rv8]))
    refine OEnd.of (fun t k => Jvm.RoadKit.acmp (g := (mkF m 136 #[.val (.int p0), .val (.int p1), .val (.int p2), .val (.int ch123), .val (.int ch124), .val (.ref b125), .val (.ref b128), .val (.int xl143), .val rv8, .val (.ref r_148)] [rv8, rv8])) X163 hx rfl h_rv8 h_rv8 (pc0 := 136) (pc' := 139) (same := true) rfl (hb hby at_136) rfl (decide_eq_true rfl) (by decide) (by decide) k) ?_
    show OEnd p e below _ (T163.setTop (mkF m 139 #[.val (.int p0), .val (.int p1), .val (.int p2), .val (.int ch123), .val (.int ch124), .val (.ref b125), .val (.ref b128), .val (.int xl143), .val rv8, .val (.ref r_148)] []))
    refine OEnd.of (fun t k => XS.iconst X163.here hx rfl (hb hby at_139) k) ?_
    show OEnd p e below _ (T163.setTop (mkF m 140 #[.val (.int p0), .val (.int p1), .val (.int p2), .val (.int ch123), .val (.int ch124), .val (.ref b125), .val (.ref b128), .val (.int xl143), .val rv8, .val (.ref r_148)] [(.int (1 : Int32))]))
    refine OEnd.of (fun t k => XS.goto X163.here hx rfl (pc0 := 140) (pc' := 144) rfl (hb hby at_140) (by decide) (by decide) k) ?_
    show OEnd p e below _ (T163.setTop (mkF m 144 #[.val (.int p0), .val (.int p1), .val (.int p2), .val (.int ch123), .val (.int ch124), .val (.ref b125), .val (.ref b128), .val (.int xl143), .val rv8, .val (.ref r_148)] [(.int (1 : Int32))]))
    have K165 : Keep h0 h145 [] := (((((K129.ext E128).wr W133 (Or.inr (Nat.le_trans K129.1 (Nat.le_of_eq g128.symm)))).wr W138 (Or.inr (Nat.le_trans K129.1 (Nat.le_of_eq g128.symm)))).trans Kj144 all0).trans Kq145 all0)
    exact OEnd.retNW X163 hx hlk e163 hh hS144 (Nat.le_trans hk144 K157.1) hEL hZ144 HR155 (t := .boolean) hret (by simp) (hb hby at_144) ⟨rfl, N164, K165⟩ (by decide) (by decide)
  by_cases hc166 : xl143 = (0 : Int32)
  · refine OEnd.of (fun t k => XS.ifNo X138.here hx rfl (hb hby at_41) rfl ((if0 _ _).trans (teq hc166).2) k) ?_
    show OEnd p e below _ (T138.setTop (mkF m 44 #[.val (.int p0), .val (.int p1), .val (.int p2), .val (.int ch123), .val (.int ch124), .val (.ref b125), .val (.ref b128), .val (.int xl143), .unset, .unset] []))
    have K168 : Keep h125 h138 [] := ((((Keep.refl h125 []).ext E128).wr W133 (Or.inr (Nat.le_of_eq g128.symm))).wr W138 (Or.inr (Nat.le_of_eq g128.symm)))
    have O169 : Ext Z.heap h138 := own_extKeep O130 K168 all0
    obtain ⟨T167, h167, X167, e167, E167, A167, D167, -, st167⟩ := newO X138 hx hZ hown (hw _ (List.mem_of_getElem? (i := 1) rfl)) (hw _ (List.mem_of_getElem? (i := 2) rfl)) (hw _ (List.mem_of_getElem? (i := 3) rfl)) e138 (g := (mkF m 44 #[.val (.int p0), .val (.int p1), .val (.int p2), .val (.int ch123), .val (.int ch124), .val (.ref b125), .val (.ref b128), .val (.int xl143), .unset, .unset] [])) rfl (hb hby at_44) (by decide) (by decide)
    obtain ⟨b167, g167⟩ : ∃ z, z = h138.size := ⟨_, rfl⟩
    rw [← g167] at A167 D167 st167
    refine OEnd.of st167 ?_
    have f167 : Z.heap.size ≤ b167 := Nat.le_trans O169.1 (Nat.le_of_eq g167.symm)
    have F170 : Fld Z h167 b167 "java/lang/String" "coder" "B" (.int (0 : Int32)) := D167 (Or.inr (hw _ (List.mem_of_getElem? (i := 27) rfl))) (ty := .byte) (by decide)
    have F171 : Fld Z h167 b167 "java/lang/String" "value" "[B" .null := D167 (Or.inr (hw _ (List.mem_of_getElem? (i := 29) rfl))) (ty := (.array .byte)) (by decide)
    have CR172 : CHr Z EL s.vm h138 s.vm h167 := CHr.ext E167 HR142.1
    have HR173 : CHr Z EL s.vm h0 s.vm h167 := HR142.trans CR172
    show OEnd p e below _ (T167.setTop (mkF m 47 #[.val (.int p0), .val (.int p1), .val (.int p2), .val (.int ch123), .val (.int ch124), .val (.ref b125), .val (.ref b128), .val (.int xl143), .unset, .unset] [(.ref b167)]))
    refine OEnd.of (fun t k => XS.dup X167.here hx rfl (hb hby at_47) rfl rfl k) ?_
    show OEnd p e below _ (T167.setTop (mkF m 48 #[.val (.int p0), .val (.int p1), .val (.int p2), .val (.int ch123), .val (.int ch124), .val (.ref b125), .val (.ref b128), .val (.int xl143), .unset, .unset] [(.ref b167), (.ref b167)]))
    refine OEnd.of (fun t k => XS.aload X167.here hx rfl (hb hby at_48) rfl rfl k) ?_
    show OEnd p e below _ (T167.setTop (mkF m 50 #[.val (.int p0), .val (.int p1), .val (.int p2), .val (.int ch123), .val (.int ch124), .val (.ref b125), .val (.ref b128), .val (.int xl143), .unset, .unset] [(.ref b125), (.ref b167), (.ref b167)]))
    have K175 : Keep h125 h167 [] := (K168.ext E167)
    have K176 : Keep h138 h167 [] := ((Keep.refl h138 []).ext E167)
    have O177 : Ext Z.heap h167 := own_extKeep O169 K176 all0
    obtain ⟨_, vq174, ⟨T174, L174, k174, n174⟩, -, X174, S174, G174, ⟨Lc174, hQ174, l174, y174, z174, C174⟩, st174⟩ := X167.specialBackS hx (y := (⟨"java/lang/String", "<init>", "([C)V"⟩ : MethodName)) rfl hown (mvT hZ (hw _ (List.mem_of_getElem? (i := 4) rfl))) (mvT hZ (hw _ (List.mem_of_getElem? (i := 5) rfl))) (mvT hZ (hw _ (List.mem_of_getElem? (i := 6) rfl))) (by decide) (backOfSH (W := 1) (rmS1e l Z a0 hw zc ko S_CS hzc S_FAILED hEL [] b167 b125 k125 h167 O177 A167 F171 F170 f167 (V125.keep K175 nin0)) hZ (hw _ (List.mem_of_getElem? (i := 6) rfl)) (hw _ (List.mem_of_getElem? (i := 3) rfl)) (by decide) (by decide) hEL HR173.1) (g := (mkF m 50 #[.val (.int p0), .val (.int p1), .val (.int p2), .val (.int ch123), .val (.int ch124), .val (.ref b125), .val (.ref b128), .val (.int xl143), .unset, .unset] [(.ref b125), (.ref b167), (.ref b167)])) rfl (by rw [hml]; rfl) (Steps.refl _) (a := b167) (argsL := [(.ref b125)]) (rest := [(.ref b167)]) (lenOf pd_285bC29V rfl) rfl (by show 2 * 0 + _ ≤ _; exact Nat.le_of_eq rfl) (hb hby at_50) (fun _ _ => ⟨rfl, e167, (by decide : 3 + 4 ≤ _), (by decide : 6 + 8 ≤ _)⟩)
    have K178 : Keep h0 h167 [] := ((((K129.ext E128).wr W133 (Or.inr (Nat.le_trans K129.1 (Nat.le_of_eq g128.symm)))).wr W138 (Or.inr (Nat.le_trans K129.1 (Nat.le_of_eq g128.symm)))).ext E167)
    dsimp only [Pt.U, Pt.locs, Pt.cells, Pt.slots] at X174 l174 y174 z174 st174 hQ174 S174 G174 C174
    subst l174 y174 z174
    obtain ⟨h174, e174⟩ : ∃ z, T174.heap = z := ⟨_, rfl⟩
    rw [e174] at hQ174 C174
    obtain ⟨rfl, Nq174, Kq174, S_179⟩ := hQ174
    have N180 := Fr.app N140 Nq174
    obtain ⟨X174, S174, hZ174, hown174⟩ := rebS hS0 (by rw [e167]; exact (Nat.le_trans hk0 K178.1)) X174 S174 G174 hZ hown
    have hk174 : T174.heap.size ≤ h174.size := by rw [e174]; exact Nat.le_refl _
    have CR181 : CHr Z EL s.vm h167 T174.vm h174 := C174
    have HR182 : CHr Z EL s.vm h0 T174.vm h174 := HR173.trans CR181
    refine OEnd.of (fun t k => st174.trans k) ?_
    show OEnd p e below _ (T174.setTop (mkF m 53 #[.val (.int p0), .val (.int p1), .val (.int p2), .val (.int ch123), .val (.int ch124), .val (.ref b125), .val (.ref b128), .val (.int xl143), .unset, .unset] [(.ref b167)]))
    refine OEnd.of (fun t k => XS.astore X174.here hx rfl (hb hby at_53) rfl rfl (l' := #[.val (.int p0), .val (.int p1), .val (.int p2), .val (.int ch123), .val (.int ch124), .val (.ref b125), .val (.ref b128), .val (.int xl143), .val (.ref b167), .unset]) rfl k) ?_
    show OEnd p e below _ (T174.setTop (mkF m 55 #[.val (.int p0), .val (.int p1), .val (.int p2), .val (.int ch123), .val (.int ch124), .val (.ref b125), .val (.ref b128), .val (.int xl143), .val (.ref b167), .unset] []))
    refine OEnd.of (fun t k => XS.goto X174.here hx rfl (pc0 := 55) (pc' := 96) rfl (hb hby at_55) (by decide) (by decide) k) ?_
    show OEnd p e below _ (T174.setTop (mkF m 96 #[.val (.int p0), .val (.int p1), .val (.int p2), .val (.int ch123), .val (.int ch124), .val (.ref b125), .val (.ref b128), .val (.int xl143), .val (.ref b167), .unset] []))
    have K183 : Keep h138 h174 [] := (K176.trans Kq174 (allS (Or.inr (Nat.le_of_eq g167.symm)) all0))
    exact J144 _ T174 h174 _ (.ref b167) rfl (X174.mono (by decide) (by decide)) e174 N180 K183 ⟨_, S174, hk174⟩ hZ174 hown174 HR182
  · refine OEnd.of (fun t k => XS.ifYes X138.here hx rfl (pc0 := 41) (pc' := 58) rfl (hb hby at_41) rfl ((if0 _ _).trans (feq hc166).2) (by decide) (by decide) k) ?_
    show OEnd p e below _ (T138.setTop (mkF m 58 #[.val (.int p0), .val (.int p1), .val (.int p2), .val (.int ch123), .val (.int ch124), .val (.ref b125), .val (.ref b128), .val (.int xl143), .unset, .unset] []))
    refine OEnd.of (fun t k => XS.iload X138.here hx rfl (hb hby at_58) rfl k) ?_
    show OEnd p e below _ (T138.setTop (mkF m 60 #[.val (.int p0), .val (.int p1), .val (.int p2), .val (.int ch123), .val (.int ch124), .val (.ref b125), .val (.ref b128), .val (.int xl143), .unset, .unset] [(.int xl143)]))
    refine OEnd.of (fun t k => XS.iconst X138.here hx rfl (hb hby at_60) k) ?_
    show OEnd p e below _ (T138.setTop (mkF m 61 #[.val (.int p0), .val (.int p1), .val (.int p2), .val (.int ch123), .val (.int ch124), .val (.ref b125), .val (.ref b128), .val (.int xl143), .unset, .unset] [(.int (1 : Int32)), (.int xl143)]))
    by_cases hc184 : xl143 = (1 : Int32)
    · refine OEnd.of (fun t k => XS.icmpNo X138.here hx rfl (hb hby at_61) rfl (teq hc184).2 k) ?_
      show OEnd p e below _ (T138.setTop (mkF m 64 #[.val (.int p0), .val (.int p1), .val (.int p2), .val (.int ch123), .val (.int ch124), .val (.ref b125), .val (.ref b128), .val (.int xl143), .unset, .unset] []))
      refine OEnd.of (fun t k => XS.iloadN X138.here hx rfl (hb hby at_64) rfl k) ?_
      show OEnd p e below _ (T138.setTop (mkF m 65 #[.val (.int p0), .val (.int p1), .val (.int p2), .val (.int ch123), .val (.int ch124), .val (.ref b125), .val (.ref b128), .val (.int xl143), .unset, .unset] [(.int ch123)]))
      have K186 : Keep h125 h138 [] := ((((Keep.refl h125 []).ext E128).wr W133 (Or.inr (Nat.le_of_eq g128.symm))).wr W138 (Or.inr (Nat.le_of_eq g128.symm)))
      have O187 : Ext Z.heap h138 := own_extKeep O130 K186 all0
      obtain ⟨_, _, ⟨T185, L185, k185, n185⟩, -, X185, ⟨Lc185, hQ185, l185, y185, z185⟩, st185⟩ := Jvm.LawKit.callS X138 hx (y := (⟨"java/lang/String", "valueOf", "(C)Ljava/lang/String;"⟩ : MethodName)) hown (mvT hZ (hw _ (List.mem_of_getElem? (i := 70) rfl))) (mvT hZ (hw _ (List.mem_of_getElem? (i := 71) rfl))) (mvT hZ (hw _ (List.mem_of_getElem? (i := 3) rfl))) (mvT hZ (hw _ (List.mem_of_getElem? (i := 72) rfl))) (by decide) (backOf (W := 0) (rmVal l Z a0 hw zc ko S_CS hzc S_FAILED [] ch123 h138 O187 hch_ch123) hZ (hw _ (List.mem_of_getElem? (i := 72) rfl)) (hw _ (List.mem_of_getElem? (i := 3) rfl)) (by decide) (by decide)) (g := (mkF m 65 #[.val (.int p0), .val (.int p1), .val (.int p2), .val (.int ch123), .val (.int ch124), .val (.ref b125), .val (.ref b128), .val (.int xl143), .unset, .unset] [(.int ch123)])) rfl (by rw [hml]; rfl) (argsL := [(.int ch123)]) (rest := []) (lenOf pd_28C29Ljava2flang2fString3b rfl) rfl (by show 2 * 0 + _ ≤ _; exact Nat.le_of_eq rfl) (hb hby at_65) (fun _ _ => ⟨rfl, e138, (by decide : 2 + 2 ≤ _), (by decide : 2 + 5 ≤ _)⟩)
      dsimp only [Pt.U, Pt.locs, Pt.cells, Pt.slots] at X185 l185 y185 z185 st185 hQ185
      subst l185 y185 z185
      obtain ⟨h185, e185⟩ : ∃ z, T185.heap = z := ⟨_, rfl⟩
      rw [e185] at hQ185
      obtain ⟨r_188, rfl, Nq185, Kq185, S_189⟩ := hQ185
      have N190 := Fr.app N140 Nq185
      have CR191 : CHr Z EL s.vm h138 s.vm h185 := CHr.keep Kq185 all0 HR142.1
      have HR192 : CHr Z EL s.vm h0 s.vm h185 := HR142.trans CR191
      refine OEnd.of st185 ?_
      show OEnd p e below _ (T185.setTop (mkF m 68 #[.val (.int p0), .val (.int p1), .val (.int p2), .val (.int ch123), .val (.int ch124), .val (.ref b125), .val (.ref b128), .val (.int xl143), .unset, .unset] [(.ref r_188)]))
      refine OEnd.of (fun t k => XS.astore X185.here hx rfl (hb hby at_68) rfl rfl (l' := #[.val (.int p0), .val (.int p1), .val (.int p2), .val (.int ch123), .val (.int ch124), .val (.ref b125), .val (.ref b128), .val (.int xl143), .val (.ref r_188), .unset]) rfl k) ?_
      show OEnd p e below _ (T185.setTop (mkF m 70 #[.val (.int p0), .val (.int p1), .val (.int p2), .val (.int ch123), .val (.int ch124), .val (.ref b125), .val (.ref b128), .val (.int xl143), .val (.ref r_188), .unset] []))
      refine OEnd.of (fun t k => XS.goto X185.here hx rfl (pc0 := 70) (pc' := 96) rfl (hb hby at_70) (by decide) (by decide) k) ?_
      show OEnd p e below _ (T185.setTop (mkF m 96 #[.val (.int p0), .val (.int p1), .val (.int p2), .val (.int ch123), .val (.int ch124), .val (.ref b125), .val (.ref b128), .val (.int xl143), .val (.ref r_188), .unset] []))
      have K193 : Keep h138 h185 [] := ((Keep.refl h138 []).trans Kq185 all0)
      have K194 : Keep h0 h185 [] := ((((K129.ext E128).wr W133 (Or.inr (Nat.le_trans K129.1 (Nat.le_of_eq g128.symm)))).wr W138 (Or.inr (Nat.le_trans K129.1 (Nat.le_of_eq g128.symm)))).trans Kq185 all0)
      exact J144 _ T185 h185 _ (.ref r_188) rfl (X185.mono (by decide) (by decide)) e185 N190 K193 ⟨_, hS0, (Nat.le_trans hk0 K194.1)⟩ hZ hown HR192
    · refine OEnd.of (fun t k => XS.icmpYes X138.here hx rfl (pc0 := 61) (pc' := 73) rfl (hb hby at_61) rfl (feq hc184).2 (by decide) (by decide) k) ?_
      show OEnd p e below _ (T138.setTop (mkF m 73 #[.val (.int p0), .val (.int p1), .val (.int p2), .val (.int ch123), .val (.int ch124), .val (.ref b125), .val (.ref b128), .val (.int xl143), .unset, .unset] []))
      refine OEnd.of (fun t k => XS.iload X138.here hx rfl (hb hby at_73) rfl k) ?_
      show OEnd p e below _ (T138.setTop (mkF m 75 #[.val (.int p0), .val (.int p1), .val (.int p2), .val (.int ch123), .val (.int ch124), .val (.ref b125), .val (.ref b128), .val (.int xl143), .unset, .unset] [(.int xl143)]))
      refine OEnd.of (fun t k => XS.iconst X138.here hx rfl (hb hby at_75) k) ?_
      show OEnd p e below _ (T138.setTop (mkF m 76 #[.val (.int p0), .val (.int p1), .val (.int p2), .val (.int ch123), .val (.int ch124), .val (.ref b125), .val (.ref b128), .val (.int xl143), .unset, .unset] [(.int (2 : Int32)), (.int xl143)]))
      by_cases hc195 : xl143 = (2 : Int32)
      · refine OEnd.of (fun t k => XS.icmpNo X138.here hx rfl (hb hby at_76) rfl (teq hc195).2 k) ?_
        show OEnd p e below _ (T138.setTop (mkF m 79 #[.val (.int p0), .val (.int p1), .val (.int p2), .val (.int ch123), .val (.int ch124), .val (.ref b125), .val (.ref b128), .val (.int xl143), .unset, .unset] []))
        have K197 : Keep h125 h138 [] := ((((Keep.refl h125 []).ext E128).wr W133 (Or.inr (Nat.le_of_eq g128.symm))).wr W138 (Or.inr (Nat.le_of_eq g128.symm)))
        have O198 : Ext Z.heap h138 := own_extKeep O130 K197 all0
        obtain ⟨T196, h196, X196, e196, E196, A196, D196, -, st196⟩ := newO X138 hx hZ hown (hw _ (List.mem_of_getElem? (i := 1) rfl)) (hw _ (List.mem_of_getElem? (i := 2) rfl)) (hw _ (List.mem_of_getElem? (i := 3) rfl)) e138 (g := (mkF m 79 #[.val (.int p0), .val (.int p1), .val (.int p2), .val (.int ch123), .val (.int ch124), .val (.ref b125), .val (.ref b128), .val (.int xl143), .unset, .unset] [])) rfl (hb hby at_79) (by decide) (by decide)
        obtain ⟨b196, g196⟩ : ∃ z, z = h138.size := ⟨_, rfl⟩
        rw [← g196] at A196 D196 st196
        refine OEnd.of st196 ?_
        have f196 : Z.heap.size ≤ b196 := Nat.le_trans O198.1 (Nat.le_of_eq g196.symm)
        have F199 : Fld Z h196 b196 "java/lang/String" "coder" "B" (.int (0 : Int32)) := D196 (Or.inr (hw _ (List.mem_of_getElem? (i := 27) rfl))) (ty := .byte) (by decide)
        have F200 : Fld Z h196 b196 "java/lang/String" "value" "[B" .null := D196 (Or.inr (hw _ (List.mem_of_getElem? (i := 29) rfl))) (ty := (.array .byte)) (by decide)
        have CR201 : CHr Z EL s.vm h138 s.vm h196 := CHr.ext E196 HR142.1
        have HR202 : CHr Z EL s.vm h0 s.vm h196 := HR142.trans CR201
        show OEnd p e below _ (T196.setTop (mkF m 82 #[.val (.int p0), .val (.int p1), .val (.int p2), .val (.int ch123), .val (.int ch124), .val (.ref b125), .val (.ref b128), .val (.int xl143), .unset, .unset] [(.ref b196)]))
        refine OEnd.of (fun t k => XS.dup X196.here hx rfl (hb hby at_82) rfl rfl k) ?_
        show OEnd p e below _ (T196.setTop (mkF m 83 #[.val (.int p0), .val (.int p1), .val (.int p2), .val (.int ch123), .val (.int ch124), .val (.ref b125), .val (.ref b128), .val (.int xl143), .unset, .unset] [(.ref b196), (.ref b196)]))
        refine OEnd.of (fun t k => XS.aload X196.here hx rfl (hb hby at_83) rfl rfl k) ?_
        show OEnd p e below _ (T196.setTop (mkF m 85 #[.val (.int p0), .val (.int p1), .val (.int p2), .val (.int ch123), .val (.int ch124), .val (.ref b125), .val (.ref b128), .val (.int xl143), .unset, .unset] [(.ref b128), (.ref b196), (.ref b196)]))
        have K203 : Keep h138 h196 [] := ((Keep.refl h138 []).ext E196)
        have O204 : Ext Z.heap h196 := own_extKeep O198 K203 all0
        obtain ⟨_, _, ⟨T205, L205, k205, n205⟩, -, X205, ⟨Lc205, hQ205, l205, y205, z205⟩, st205⟩ := X196.specialBack hx (y := (⟨"java/lang/String", "<init>", "([C)V"⟩ : MethodName)) rfl hown (mvT hZ (hw _ (List.mem_of_getElem? (i := 4) rfl))) (mvT hZ (hw _ (List.mem_of_getElem? (i := 5) rfl))) (mvT hZ (hw _ (List.mem_of_getElem? (i := 6) rfl))) (by decide) (StrChars.Road.backV (W := 1) hZ (fun d hd => hw d (own_strWords d hd)) (kI := 4) (hw _ (List.mem_of_getElem? (i := 2) rfl)) (cs := [ch123, ch124]) (bs := [ch123, ch124].map (fun c => c.toInt8.toInt32)) (n := 2) (n0 := Z.heap.size) f196 O204.1 A196 F200 F199 (V139.keep K203 nin0) (Sta.ext O204 S_CS) hzc rfl rfl (by decide) (by decide) (List.forall_mem_cons.mpr ⟨hch_ch123, (List.forall_mem_cons.mpr ⟨hch_ch124, (fun _ q => nomatch q)⟩)⟩) rfl (by decide) (by decide)) (g := (mkF m 85 #[.val (.int p0), .val (.int p1), .val (.int p2), .val (.int ch123), .val (.int ch124), .val (.ref b125), .val (.ref b128), .val (.int xl143), .unset, .unset] [(.ref b128), (.ref b196), (.ref b196)])) rfl (by rw [hml]; rfl) (Steps.refl _) (a := b196) (argsL := [(.ref b128)]) (rest := [(.ref b196)]) (lenOf pd_285bC29V rfl) rfl (by show 2 * 0 + _ ≤ _; exact Nat.le_of_eq rfl) (hb hby at_85) (fun _ _ => ⟨rfl, e196, (by decide : 3 + 1 ≤ _), (by decide : 6 + 2 ≤ _)⟩)
        dsimp only [Pt.U, Pt.locs, Pt.cells, Pt.slots] at X205 l205 y205 z205 st205 hQ205
        subst l205 y205 z205
        obtain ⟨h205, e205⟩ : ∃ z, T205.heap = z := ⟨_, rfl⟩
        rw [e205] at hQ205
        have Sf206 : Safe Z EL s.vm h196 b196 := own_safeNull hZ.alike A196 F200
        have lt207 : b196 < h196.size := (A196).lt
        obtain ⟨rfl, Nq205, Kq205, Ex205, Cd205, t205, kb205, f205, hh205, nx205, Vl205, Ar205⟩ := hQ205
        have N208 := Fr.app N140 Nq205
        have CR209 : CHr Z EL s.vm h196 s.vm h205 := CHr.keep Kq205 (allS Sf206 all0) HR202.1
        have HR210 : CHr Z EL s.vm h0 s.vm h205 := HR202.trans CR209
        have Sf211 : Safe Z EL s.vm h205 b196 := CR209.safe lt207 Sf206
        refine OEnd.of (fun t k => st205.trans k) ?_
        show OEnd p e below _ (T205.setTop (mkF m 88 #[.val (.int p0), .val (.int p1), .val (.int p2), .val (.int ch123), .val (.int ch124), .val (.ref b125), .val (.ref b128), .val (.int xl143), .unset, .unset] [(.ref b196)]))
        have St212 : IsStr Z h205 b196 [ch123, ch124] := ⟨Ex205, Cd205, ⟨t205, kb205, Vl205, Ar205⟩, (List.forall_mem_cons.mpr ⟨hch_ch123, (List.forall_mem_cons.mpr ⟨hch_ch124, (fun _ q => nomatch q)⟩)⟩), Nat.le_of_ble_eq_true rfl⟩
        refine OEnd.of (fun t k => XS.astore X205.here hx rfl (hb hby at_88) rfl rfl (l' := #[.val (.int p0), .val (.int p1), .val (.int p2), .val (.int ch123), .val (.int ch124), .val (.ref b125), .val (.ref b128), .val (.int xl143), .val (.ref b196), .unset]) rfl k) ?_
        show OEnd p e below _ (T205.setTop (mkF m 90 #[.val (.int p0), .val (.int p1), .val (.int p2), .val (.int ch123), .val (.int ch124), .val (.ref b125), .val (.ref b128), .val (.int xl143), .val (.ref b196), .unset] []))
        refine OEnd.of (fun t k => XS.goto X205.here hx rfl (pc0 := 90) (pc' := 96) rfl (hb hby at_90) (by decide) (by decide) k) ?_
        show OEnd p e below _ (T205.setTop (mkF m 96 #[.val (.int p0), .val (.int p1), .val (.int p2), .val (.int ch123), .val (.int ch124), .val (.ref b125), .val (.ref b128), .val (.int xl143), .val (.ref b196), .unset] []))
        have K213 : Keep h138 h205 [] := (K203.trans Kq205 (allS (Or.inr (Nat.le_of_eq g196.symm)) all0))
        have K214 : Keep h0 h138 [] := (((K129.ext E128).wr W133 (Or.inr (Nat.le_trans K129.1 (Nat.le_of_eq g128.symm)))).wr W138 (Or.inr (Nat.le_trans K129.1 (Nat.le_of_eq g128.symm))))
        have K215 : Keep h0 h205 [] := (((((K129.ext E128).wr W133 (Or.inr (Nat.le_trans K129.1 (Nat.le_of_eq g128.symm)))).wr W138 (Or.inr (Nat.le_trans K129.1 (Nat.le_of_eq g128.symm)))).ext E196).trans Kq205 (allS (Or.inr (Nat.le_trans K214.1 (Nat.le_of_eq g196.symm))) all0))
        exact J144 _ T205 h205 _ (.ref b196) rfl (X205.mono (by decide) (by decide)) e205 N208 K213 ⟨_, hS0, (Nat.le_trans hk0 K215.1)⟩ hZ hown HR210
      · refine OEnd.of (fun t k => XS.icmpYes X138.here hx rfl (pc0 := 76) (pc' := 93) rfl (hb hby at_76) rfl (feq hc195).2 (by decide) (by decide) k) ?_
        show OEnd p e below _ (T138.setTop (mkF m 93 #[.val (.int p0), .val (.int p1), .val (.int p2), .val (.int ch123), .val (.int ch124), .val (.ref b125), .val (.ref b128), .val (.int xl143), .unset, .unset] []))
        refine OEnd.of (fun t k => XS.aconstNull X138.here hx rfl (hb hby at_93) k) ?_
        show OEnd p e below _ (T138.setTop (mkF m 94 #[.val (.int p0), .val (.int p1), .val (.int p2), .val (.int ch123), .val (.int ch124), .val (.ref b125), .val (.ref b128), .val (.int xl143), .unset, .unset] [.null]))
        refine OEnd.of (fun t k => XS.astore X138.here hx rfl (hb hby at_94) rfl rfl (l' := #[.val (.int p0), .val (.int p1), .val (.int p2), .val (.int ch123), .val (.int ch124), .val (.ref b125), .val (.ref b128), .val (.int xl143), .val .null, .unset]) rfl k) ?_
        show OEnd p e below _ (T138.setTop (mkF m 96 #[.val (.int p0), .val (.int p1), .val (.int p2), .val (.int ch123), .val (.int ch124), .val (.ref b125), .val (.ref b128), .val (.int xl143), .val .null, .unset] []))
        have K216 : Keep h0 h138 [] := (((K129.ext E128).wr W133 (Or.inr (Nat.le_trans K129.1 (Nat.le_of_eq g128.symm)))).wr W138 (Or.inr (Nat.le_trans K129.1 (Nat.le_of_eq g128.symm))))
        exact J144 _ T138 h138 _ .null rfl (X138.mono (by decide) (by decide)) e138 N140 (Keep.refl h138 []) ⟨_, hS0, (Nat.le_trans hk0 K216.1)⟩ hZ hown HR142
set_option maxRecDepth 65536 in
set_option maxHeartbeats 40000000 in
theorem comes_1 {Post : Tables → Env → Array Value → State → Outcome → State → Prop} (hpost : ∀ tb e args s v u, (limb_1_1.after args s (.returned v) u = true ∧ limb_1_2.after args s (.returned v) u = true ∧ True) → ReturnedEndW s (.returned v) u (Jvm.fieldLocs frame_1_writes args s ++ Jvm.arrayLocs frame_1_arrays args s ++ Jvm.staticLocs frame_1_statics s) 24 1152 → Post tb e args s (.returned v) u) :
    ArmFor flags0 classFile x code maxLocals ret World_1 tables_1 room_1 Calls_1 rest_1 Pre_1 Post := by
  intro l hfl _ _ p e ha hc hk s m args below hf hA hF happ hP
  obtain ⟨hcalls, hrest, hpre⟩ := hP
  obtain ⟨-, -, -, hnamed, -, -, -, hat⟩ := (Spec.applies_iff hf).mp happ
  obtain ⟨hg, hn⟩ := and_e (Cond.before_iff.mp (show (Jvm.Cond.and given_1 narrow_1).before args s = true from hpre))
  obtain ⟨hcnt, hg0⟩ := and_e hg
  obtain ⟨ga0, hg1⟩ := and_e hg0
  obtain ⟨ga1, hg2⟩ := and_e hg1
  have ga2 := hg2
  obtain ⟨w0, w1, w2, rfl⟩ : ∃ w0 w1 w2 : Value, args = #[w0, w1, w2] := by
    have hs : args.size = 3 := by simpa [Cond.value, given_1] using hcnt
    obtain ⟨L⟩ := args
    match L, hs with
    | [w0, w1, w2], _ => exact ⟨w0, w1, w2, rfl⟩
  have hw := fun d (hd : d ∈ tables_1) => atoms_spec (ws := Jvm.Cond.code x code maxLocals ret :: tables_1) hat d (List.mem_cons_of_mem _ hd)
  have hfit : Fit s := fun {y c} hc i hi => by
    obtain ⟨ha, rfl⟩ := Array.getElem?_eq_some_iff.mp hc
    have q := List.all_eq_true.mp ((Array.all_eq_true_iff_forall_mem.mp hF) _ (Array.getElem_mem ha)) i (List.mem_range.mpr hi)
    simpa [Array.getElem?_eq_getElem hi] using q
  obtain ⟨hsets, hown0⟩ := atoms_of _ (rest_1_c_eq ▸ (show rest_1_c.before _ s = true from hrest))
  obtain ⟨i0, ei0⟩ := is_v ga0
  obtain rfl : w0 = (.int i0) := Option.some.inj ei0
  obtain ⟨i1, ei1⟩ := is_v ga1
  obtain rfl : w1 = (.int i1) := Option.some.inj ei1
  obtain ⟨i2, ei2⟩ := is_v ga2
  obtain rfl : w2 = (.int i2) := Option.some.inj ei2
  have n3 := not_v (Cond.before_iff.mp (hsets _ (List.mem_of_getElem? (i := 2) rfl)))
  obtain ⟨zc, ezc⟩ := is_v (Cond.before_iff.mp (hsets _ (List.mem_of_getElem? (i := 1) rfl)))
  have S_CS : Sta s s.heap "java/lang/String" "COMPACT_STRINGS" "Z" (.int zc) := Sta.start ezc (Or.inl (hsets _ (List.mem_of_getElem? (i := 0) rfl)))
  have hzc : ¬ zc = (0 : Int32) := gotF (Cond.eq_ints ezc (Term.int_eval (0))) n3
  obtain ⟨ko, e_ko⟩ := exa_v hn
  have S_FAILED : Sta s s.heap "com/example/holdfast/holdfast/provider/ProviderAnswer$Outcome" "FAILED" "Lcom/example/holdfast/holdfast/provider/ProviderAnswer$Outcome;" (.ref ko) := Sta.start e_ko (Or.inr ⟨(hw _ (List.mem_of_getElem? (i := 37) rfl)), (hw _ (List.mem_of_getElem? (i := 38) rfl))⟩)
  have hEL : EW s _ EL := (EW.cons (hw _ (List.mem_of_getElem? (i := 84) rfl)) (by decide) EW.nil)
  have hCH : CHv s EL s.vm s.heap := CHv.start hEL (fun p hp => hcalls.1 p hp) (hsets _ (List.mem_of_getElem? (i := 2) rfl)) (hw _ (List.mem_of_getElem? (i := 19) rfl)) (hw _ (List.mem_of_getElem? (i := 2) rfl))
  obtain ⟨n, o, h1, h2, h3, _, L, rfl, ⟨rfl, N, -⟩, -, hq⟩ := rm0 l s _ hw zc ko S_CS hzc S_FAILED hEL tables_1 i0 i1 i2  s.heap ⟨Nat.le_refl _, fun _ _ q => q⟩  p e ha hc hk s m _ below hf ((Spec.applies_iff_loose hf).mp happ).1 ⟨rfl, State.Warmed39.refl s, rfl, hCH⟩ trivial
  refine ⟨n, _, h1, h2, h3, hpost _ _ _ _ _ _ ⟨Cond.after_iff.mpr rfl, Cond.after_iff.mpr (eq_i res_at (Term.int_eval (1)) rfl), trivial⟩ ⟨hq.1, hq.2.1, hq.2.2.1, (hq.2.2.2.sift fun y hy => Or.inr (N y hy)).mono (by decide) (by decide)⟩⟩
theorem main_1_1 : Claimed_1_1 := comes_1 fun _ _ _ _ _ _ h hF => ⟨h.1, hF⟩
theorem main_1_2 : Claimed_1_2 := comes_1 fun _ _ _ _ _ _ h hF => ⟨h.2.1, hF⟩
end Jvm.Pilot.@@N@@
namespace Jvm.Pilot.@@N@@
open Jvm Jvm.ClassFile Sem Op Lib Jvm.Free Jvm.Stand Jvm.Pilot.@@N@@.Jvm.D
/-! MADE BY PROGRAM (witnessworld.py) out of the Statement's table words and the real class files: 23 classes; the members and pool entries that the words name. The judged class is class 1, her method 1. -/
namespace start1
open Jvm.ClassFile
def u (s : String) : CpInfo := .utf8 (stringToUtf16 s)
/-- a pool by its gaps: so many unusable entries, then the entry; so many at the end -/
def gap : Nat → List CpInfo → List CpInfo
  | 0, r => r
  | n + 1, r => .unusable :: gap n r
def poolList (es : List (Nat × CpInfo)) (last : Nat) : List CpInfo := es.foldr (fun e r => gap e.1 (e.2 :: r)) (gap last [])
def pool (es : List (Nat × CpInfo)) (last : Nat) : Array CpInfo := ⟨poolList es last⟩
def fileOf (pool : Array CpInfo) (this : Nat) (attrs : Array Attribute := #[]) (ms : Array MethodInfo := #[]) (fl : Nat := 33) (sup : Nat := 0) (ifs : Array Nat := #[]) (fds : Array FieldInfo := #[]) : ClassFile where
  minorVersion := 0
  majorVersion := 65
  constantPool := pool
  accessFlags := fl
  thisClass := this
  superClass := sup
  interfaces := ifs
  fields := fds
  methods := ms
  attributes := attrs
def plain (name : String) (sup : Option ClassId) : Class where
  name := name
  kind := .ordinary
  loader := none
  accessFlags := 33
  super := sup
  interfaces := #[]
  cf := none
  fields := #[]
  methods := #[]
  instanceTypes := #[]
  staticTypes := #[]
  resolved := #[]
  callSites := []
  init := .initialized
  statics := none
  mirror := none

def pool0 : Array CpInfo := pool [(5, u "<init>"), (0, u "()V"), (1, .class_ 10), (1, u "java/lang/Object")] 113

def k0c0 : Code := { maxStack := 0, maxLocals := 1, code := object_method_1_code, exceptionTable := #[], attributes := #[] }
def k0m0 : Method := { name := "<init>", desc := "()V", sig := { parameters := [], returnType := none }, accessFlags := 1, code := some k0c0 }
/-- java/lang/Object -/
def k0 : Class := { plain "java/lang/Object" none with
  accessFlags := 33
  interfaces := #[]
  cf := some (fileOf pool0 8 #[] #[{ accessFlags := 1, nameIndex := 5, descriptorIndex := 6, attributes := #[] }] 33 0 #[] #[])
  fields := #[]
  methods := #[k0m0]
  instanceTypes := #[]
  staticTypes := #[]
  resolved := Array.replicate 124 none
  statics := none }

def pool1 : Array CpInfo := pool [(2, .class_ 4), (1, u "java/lang/Object"), (0, u "<init>"), (0, u "()V"), (0, .class_ 8), (0, u "java/lang/String"), (0, .methodref 7 10), (0, .nameAndType 5 11), (0, u "([C)V"), (0, .methodref 7 13), (0, .nameAndType 14 15), (0, u "valueOf"), (0, u "(C)Ljava/lang/String;"), (0, .methodref 17 18), (0, .class_ 19), (0, .nameAndType 20 21), (0, u "com/example/holdfast/holdfast/provider/ProviderAnswer"), (0, u "failed"), (0, u "(Ljava/lang/String;)Lcom/example/holdfast/holdfast/provider/ProviderAnswer;"), (0, .methodref 17 23), (0, .nameAndType 24 25), (0, u "outcome"), (0, u "()Lcom/example/holdfast/holdfast/provider/ProviderAnswer$Outcome;"), (0, .fieldref 27 28), (0, .class_ 29), (0, .nameAndType 30 31), (0, u "com/example/holdfast/holdfast/provider/ProviderAnswer$Outcome"), (0, u "FAILED"), (0, u "Lcom/example/holdfast/holdfast/provider/ProviderAnswer$Outcome;"), (0, .methodref 17 33), (0, .nameAndType 34 35), (0, u "id"), (0, u "()Ljava/lang/String;"), (0, .methodref 17 37), (0, .nameAndType 38 35), (0, u "detail"), (0, .class_ 40), (0, u "com/example/holdfast/holdfast/provider/ProviderAnswerFailedPinLaw"), (2, u "law"), (0, u "(III)Z")] 7

def k1m0 : Method := { name := "<init>", desc := "()V", sig := { parameters := [], returnType := none }, accessFlags := 2, code := none }
def k1c1 : Code := { maxStack := 4, maxLocals := 10, code := code, exceptionTable := #[], attributes := #[] }
def k1m1 : Method := { name := "law", desc := "(III)Z", sig := { parameters := [.int, .int, .int], returnType := some .boolean }, accessFlags := 9, code := some k1c1 }
/-- com/example/holdfast/holdfast/provider/ProviderAnswerFailedPinLaw -/
def k1 : Class := { plain "com/example/holdfast/holdfast/provider/ProviderAnswerFailedPinLaw" (some 0) with
  accessFlags := 49
  interfaces := #[]
  cf := some (fileOf pool1 39 #[] #[{ accessFlags := 2, nameIndex := 5, descriptorIndex := 6, attributes := #[] }, { accessFlags := 9, nameIndex := 43, descriptorIndex := 44, attributes := #[] }] 49 2 #[] #[])
  fields := #[]
  methods := #[k1m0, k1m1]
  instanceTypes := #[]
  staticTypes := #[]
  resolved := Array.replicate 52 none
  statics := none }

def pool2 : Array CpInfo := pool [(1, .class_ 2), (0, u "java/io/Serializable"), (0, .class_ 4), (0, u "java/lang/Object")] 2

/-- java/io/Serializable -/
def k2 : Class := { plain "java/io/Serializable" (some 0) with
  accessFlags := 1537
  interfaces := #[]
  cf := some (fileOf pool2 1 #[] #[] 1537 3 #[] #[])
  fields := #[]
  methods := #[]
  instanceTypes := #[]
  staticTypes := #[]
  resolved := Array.replicate 7 none
  statics := none }

def pool3 : Array CpInfo := pool [(1, .class_ 2), (0, u "java/lang/Comparable"), (0, .class_ 4), (0, u "java/lang/Object")] 7

/-- java/lang/Comparable -/
def k3 : Class := { plain "java/lang/Comparable" (some 0) with
  accessFlags := 1537
  interfaces := #[]
  cf := some (fileOf pool3 1 #[] #[] 1537 3 #[] #[])
  fields := #[]
  methods := #[]
  instanceTypes := #[]
  staticTypes := #[]
  resolved := Array.replicate 12 none
  statics := none }

def pool4 : Array CpInfo := pool [(2, .class_ 4), (1, u "java/lang/CharSequence"), (42, .class_ 48), (0, u "java/lang/CharSequence$1CodePointIterator"), (10, .class_ 60), (0, u "java/lang/CharSequence$1CharIterator"), (5, .class_ 67), (0, u "java/lang/Object")] 63

/-- java/lang/CharSequence -/
def k4 : Class := { plain "java/lang/CharSequence" (some 0) with
  accessFlags := 1537
  interfaces := #[]
  cf := some (fileOf pool4 2 #[.nestMembers #[47, 59]] #[] 1537 66 #[] #[])
  fields := #[]
  methods := #[]
  instanceTypes := #[]
  staticTypes := #[]
  resolved := Array.replicate 131 none
  statics := none }

def pool5 : Array CpInfo := pool [(1, .class_ 2), (0, u "java/lang/constant/Constable"), (0, .class_ 4), (0, u "java/lang/Object")] 6

/-- java/lang/constant/Constable -/
def k5 : Class := { plain "java/lang/constant/Constable" (some 0) with
  accessFlags := 1537
  interfaces := #[]
  cf := some (fileOf pool5 1 #[] #[] 1537 3 #[] #[])
  fields := #[]
  methods := #[]
  instanceTypes := #[]
  staticTypes := #[]
  resolved := Array.replicate 11 none
  statics := none }

def pool6 : Array CpInfo := pool [(1, .class_ 2), (0, u "java/lang/constant/ConstantDesc"), (0, .class_ 4), (0, u "java/lang/Object")] 32

/-- java/lang/constant/ConstantDesc -/
def k6 : Class := { plain "java/lang/constant/ConstantDesc" (some 0) with
  accessFlags := 1537
  interfaces := #[]
  cf := some (fileOf pool6 1 #[] #[] 1537 3 #[] #[])
  fields := #[]
  methods := #[]
  instanceTypes := #[]
  staticTypes := #[]
  resolved := Array.replicate 37 none
  statics := none }

def pool7 : Array CpInfo := pool [(1, .methodref 2 3), (0, .class_ 4), (0, .nameAndType 5 6), (0, u "java/lang/Object"), (0, u "<init>"), (0, u "()V"), (0, .string 8), (0, u ""), (0, .fieldref 10 11), (0, .class_ 12), (0, .nameAndType 13 14), (0, u "java/lang/String"), (0, u "value"), (0, u "[B"), (0, .fieldref 10 16), (0, .nameAndType 17 18), (0, u "coder"), (0, u "B"), (2, u "hash"), (0, u "I"), (2, u "hashIsZero"), (0, u "Z"), (0, .methodref 10 28), (0, .nameAndType 5 29), (0, u "([CIILjava/lang/Void;)V"), (8, .fieldref 10 39), (0, .nameAndType 40 26), (0, u "COMPACT_STRINGS"), (1, .class_ 44), (1, u "java/lang/StringUTF16"), (0, u "compress"), (1, .methodref 42 48), (0, .nameAndType 49 50), (0, u "coderFromArrayLen"), (0, u "([BI)B"), (2, u "toBytes"), (53, .class_ 109), (1, u "java/lang/StringLatin1"), (67, .methodref 42 178), (0, .nameAndType 45 179), (0, u "([CII)[B"), (29, .methodref 10 210), (0, .nameAndType 5 211), (0, u "([BB)V"), (157, u "(C)Z"), (205, .class_ 576), (0, u "java/lang/CharSequence"), (22, u "CASE_INSENSITIVE_ORDER"), (0, u "Ljava/util/Comparator;"), (181, u "valueOf"), (0, u "(C)Ljava/lang/String;"), (226, u "([C)V"), (4, .methodref 107 1016), (0, .nameAndType 1017 369), (0, u "canEncode"), (0, .methodref 107 1019), (0, .nameAndType 53 1020), (0, u "(C)[B"), (80, u "serialPersistentFields"), (0, u "[Ljava/io/ObjectStreamField;"), (0, .class_ 1104), (0, u "java/lang/String$CaseInsensitiveComparator"), (1, .class_ 1107), (0, u "java/io/Serializable"), (0, .class_ 1109), (0, u "java/lang/Comparable"), (0, .class_ 1111), (0, u "java/lang/constant/Constable"), (0, .class_ 1113), (0, u "java/lang/constant/ConstantDesc"), (2, u "serialVersionUID"), (0, u "J"), (3, u "REPL"), (0, u "C"), (2, u "LATIN1"), (1, u "UTF16")] 323

def k7m0 : Method := { name := "<init>", desc := "()V", sig := { parameters := [], returnType := none }, accessFlags := 1, code := none }
def k7c1 : Code := { maxStack := 5, maxLocals := 2, code := jdk_42_method_3_code, exceptionTable := #[], attributes := #[] }
def k7m1 : Method := { name := "<init>", desc := "([C)V", sig := { parameters := [(.array .char)], returnType := none }, accessFlags := 1, code := some k7c1 }
def k7c2 : Code := { maxStack := 4, maxLocals := 1, code := jdk_42_method_139_code, exceptionTable := #[], attributes := #[] }
def k7m2 : Method := { name := "valueOf", desc := "(C)Ljava/lang/String;", sig := { parameters := [.char], returnType := some (.object "java/lang/String") }, accessFlags := 9, code := some k7c2 }
def k7c3 : Code := { maxStack := 4, maxLocals := 6, code := jdk_42_method_149_code, exceptionTable := #[], attributes := #[] }
def k7m3 : Method := { name := "<init>", desc := "([CIILjava/lang/Void;)V", sig := { parameters := [(.array .char), .int, .int, (.object "java/lang/Void")], returnType := none }, accessFlags := 2, code := some k7c3 }
def k7c4 : Code := { maxStack := 2, maxLocals := 3, code := jdk_42_method_151_code, exceptionTable := #[], attributes := #[] }
def k7m4 : Method := { name := "<init>", desc := "([BB)V", sig := { parameters := [(.array .byte), .byte], returnType := none }, accessFlags := 0, code := some k7c4 }
/-- java/lang/String -/
def k7 : Class := { plain "java/lang/String" (some 0) with
  accessFlags := 49
  interfaces := #[2, 3, 4, 5, 6]
  cf := some (fileOf pool7 10 #[.nestMembers #[1103]] #[{ accessFlags := 1, nameIndex := 5, descriptorIndex := 6, attributes := #[] }, { accessFlags := 1, nameIndex := 5, descriptorIndex := 1010, attributes := #[] }, { accessFlags := 9, nameIndex := 782, descriptorIndex := 783, attributes := #[] }, { accessFlags := 2, nameIndex := 5, descriptorIndex := 29, attributes := #[] }, { accessFlags := 0, nameIndex := 5, descriptorIndex := 211, attributes := #[] }] 49 2 #[1106, 1108, 575, 1110, 1112] #[{ accessFlags := 18, nameIndex := 13, descriptorIndex := 14, attributes := #[] }, { accessFlags := 18, nameIndex := 17, descriptorIndex := 18, attributes := #[] }, { accessFlags := 2, nameIndex := 21, descriptorIndex := 22, attributes := #[] }, { accessFlags := 2, nameIndex := 25, descriptorIndex := 26, attributes := #[] }, { accessFlags := 26, nameIndex := 1116, descriptorIndex := 1117, attributes := #[] }, { accessFlags := 24, nameIndex := 40, descriptorIndex := 26, attributes := #[] }, { accessFlags := 26, nameIndex := 1101, descriptorIndex := 1102, attributes := #[] }, { accessFlags := 26, nameIndex := 1121, descriptorIndex := 1122, attributes := #[] }, { accessFlags := 25, nameIndex := 599, descriptorIndex := 600, attributes := #[] }, { accessFlags := 24, nameIndex := 1125, descriptorIndex := 18, attributes := #[] }, { accessFlags := 24, nameIndex := 1127, descriptorIndex := 18, attributes := #[] }])
  fields := #[{ name := "value", type := (.array .byte), accessFlags := 18, slot := 0, constantValue := 0 }, { name := "coder", type := .byte, accessFlags := 18, slot := 1, constantValue := 0 }, { name := "hash", type := .int, accessFlags := 2, slot := 2, constantValue := 0 }, { name := "hashIsZero", type := .boolean, accessFlags := 2, slot := 3, constantValue := 0 }, { name := "serialVersionUID", type := .long, accessFlags := 26, slot := 0, constantValue := 0 }, { name := "COMPACT_STRINGS", type := .boolean, accessFlags := 24, slot := 1, constantValue := 0 }, { name := "serialPersistentFields", type := (.array (.object "java/io/ObjectStreamField")), accessFlags := 26, slot := 2, constantValue := 0 }, { name := "REPL", type := .char, accessFlags := 26, slot := 3, constantValue := 0 }, { name := "CASE_INSENSITIVE_ORDER", type := (.object "java/util/Comparator"), accessFlags := 25, slot := 4, constantValue := 0 }, { name := "LATIN1", type := .byte, accessFlags := 24, slot := 5, constantValue := 0 }, { name := "UTF16", type := .byte, accessFlags := 24, slot := 6, constantValue := 0 }]
  methods := #[k7m0, k7m1, k7m2, k7m3, k7m4]
  instanceTypes := #[(.array .byte), .byte, .int, .boolean]
  staticTypes := #[.long, .boolean, (.array (.object "java/io/ObjectStreamField")), .char, (.object "java/util/Comparator"), .byte, .byte]
  resolved := Array.replicate 1451 none
  statics := some 0 }

def pool8 : Array CpInfo := pool [(6, .class_ 8), (1, u "java/lang/Object"), (0, u "<init>"), (0, u "()V"), (1, .class_ 14), (1, u "java/lang/StringUTF16"), (31, u "$assertionsDisabled"), (0, u "Z"), (13, u "HI_BYTE_SHIFT"), (0, u "I"), (2, u "LO_BYTE_SHIFT"), (49, .methodref 12 116), (0, .nameAndType 117 118), (0, u "compress"), (0, u "([CI[BII)I"), (3, u "([CII)[B"), (138, u "coderFromArrayLen"), (0, u "([BI)B"), (106, .class_ 371), (1, u "java/lang/StringUTF16$LinesSpliterator"), (58, u "MAX_LENGTH"), (196, .class_ 628), (0, u "java/lang/StringUTF16$CodePointsSpliterator"), (0, .class_ 630), (0, u "java/lang/StringUTF16$CharsSpliterator")] 4

def k8m0 : Method := { name := "<init>", desc := "()V", sig := { parameters := [], returnType := none }, accessFlags := 0, code := none }
def k8c1 : Code := { maxStack := 2, maxLocals := 2, code := jdk_52_method_15_code, exceptionTable := #[], attributes := #[] }
def k8m1 : Method := { name := "coderFromArrayLen", desc := "([BI)B", sig := { parameters := [(.array .byte), .int], returnType := some .byte }, accessFlags := 8, code := some k8c1 }
def k8c2 : Code := { maxStack := 5, maxLocals := 6, code := jdk_52_method_16_code, exceptionTable := #[], attributes := #[] }
def k8m2 : Method := { name := "compress", desc := "([CII)[B", sig := { parameters := [(.array .char), .int, .int], returnType := some (.array .byte) }, accessFlags := 9, code := some k8c2 }
def k8c3 : Code := { maxStack := 3, maxLocals := 7, code := jdk_52_method_21_code, exceptionTable := #[], attributes := #[] }
def k8m3 : Method := { name := "compress", desc := "([CI[BII)I", sig := { parameters := [(.array .char), .int, (.array .byte), .int, .int], returnType := some .int }, accessFlags := 9, code := some k8c3 }
/-- java/lang/StringUTF16 -/
def k8 : Class := { plain "java/lang/StringUTF16" (some 0) with
  accessFlags := 48
  interfaces := #[]
  cf := some (fileOf pool8 12 #[.nestMembers #[627, 629, 369]] #[{ accessFlags := 0, nameIndex := 9, descriptorIndex := 10, attributes := #[] }, { accessFlags := 8, nameIndex := 261, descriptorIndex := 262, attributes := #[] }, { accessFlags := 9, nameIndex := 117, descriptorIndex := 122, attributes := #[] }, { accessFlags := 9, nameIndex := 117, descriptorIndex := 118, attributes := #[] }] 48 6 #[] #[{ accessFlags := 26, nameIndex := 61, descriptorIndex := 62, attributes := #[] }, { accessFlags := 26, nameIndex := 65, descriptorIndex := 62, attributes := #[] }, { accessFlags := 24, nameIndex := 430, descriptorIndex := 62, attributes := #[] }, { accessFlags := 4120, nameIndex := 46, descriptorIndex := 47, attributes := #[] }])
  fields := #[{ name := "HI_BYTE_SHIFT", type := .int, accessFlags := 26, slot := 0, constantValue := 0 }, { name := "LO_BYTE_SHIFT", type := .int, accessFlags := 26, slot := 1, constantValue := 0 }, { name := "MAX_LENGTH", type := .int, accessFlags := 24, slot := 2, constantValue := 0 }, { name := "$assertionsDisabled", type := .boolean, accessFlags := 4120, slot := 3, constantValue := 0 }]
  methods := #[k8m0, k8m1, k8m2, k8m3]
  instanceTypes := #[]
  staticTypes := #[.int, .int, .int, .boolean]
  resolved := Array.replicate 635 none
  statics := none }

def pool9 : Array CpInfo := pool [(1, .methodref 2 3), (0, .class_ 4), (0, .nameAndType 5 6), (0, u "java/lang/Object"), (0, u "<init>"), (0, u "()V"), (0, .class_ 8), (0, u "java/lang/Record")] 13

def k9c0 : Code := { maxStack := 1, maxLocals := 1, code := jdk_30_method_1_code, exceptionTable := #[], attributes := #[] }
def k9m0 : Method := { name := "<init>", desc := "()V", sig := { parameters := [], returnType := none }, accessFlags := 4, code := some k9c0 }
/-- java/lang/Record -/
def k9 : Class := { plain "java/lang/Record" (some 0) with
  accessFlags := 1057
  interfaces := #[]
  cf := some (fileOf pool9 7 #[] #[{ accessFlags := 4, nameIndex := 5, descriptorIndex := 6, attributes := #[] }] 1057 2 #[] #[])
  fields := #[]
  methods := #[k9m0]
  instanceTypes := #[]
  staticTypes := #[]
  resolved := Array.replicate 22 none
  statics := none }

def pool10 : Array CpInfo := pool [(1, .methodref 2 3), (0, .class_ 4), (0, .nameAndType 5 6), (0, u "java/lang/Record"), (0, u "<init>"), (0, u "()V"), (0, .fieldref 8 9), (0, .class_ 10), (0, .nameAndType 11 12), (0, u "com/example/holdfast/holdfast/provider/ProviderAnswer"), (0, u "outcome"), (0, u "Lcom/example/holdfast/holdfast/provider/ProviderAnswer$Outcome;"), (0, .fieldref 8 14), (0, .nameAndType 15 16), (0, u "id"), (0, u "Ljava/lang/String;"), (0, .fieldref 8 18), (0, .nameAndType 19 16), (0, u "detail"), (1, .class_ 23), (1, u "com/example/holdfast/holdfast/provider/ProviderAnswer$Outcome"), (1, .methodref 8 26), (0, .nameAndType 5 27), (0, u "(Lcom/example/holdfast/holdfast/provider/ProviderAnswer$Outcome;Ljava/lang/String;Ljava/lang/String;)V"), (6, .fieldref 21 35), (0, .nameAndType 36 12), (0, u "FAILED"), (22, u "(Ljava/lang/String;)Lcom/example/holdfast/holdfast/provider/ProviderAnswer;"), (2, u "failed"), (2, u "()Ljava/lang/String;"), (2, u "()Lcom/example/holdfast/holdfast/provider/ProviderAnswer$Outcome;")] 24

def k10c0 : Code := { maxStack := 2, maxLocals := 4, code := prog_12_method_1_code, exceptionTable := #[], attributes := #[] }
def k10m0 : Method := { name := "<init>", desc := "(Lcom/example/holdfast/holdfast/provider/ProviderAnswer$Outcome;Ljava/lang/String;Ljava/lang/String;)V", sig := { parameters := [(.object "com/example/holdfast/holdfast/provider/ProviderAnswer$Outcome"), (.object "java/lang/String"), (.object "java/lang/String")], returnType := none }, accessFlags := 1, code := some k10c0 }
def k10c1 : Code := { maxStack := 5, maxLocals := 1, code := prog_12_method_5_code, exceptionTable := #[], attributes := #[] }
def k10m1 : Method := { name := "failed", desc := "(Ljava/lang/String;)Lcom/example/holdfast/holdfast/provider/ProviderAnswer;", sig := { parameters := [(.object "java/lang/String")], returnType := some (.object "com/example/holdfast/holdfast/provider/ProviderAnswer") }, accessFlags := 9, code := some k10c1 }
def k10c2 : Code := { maxStack := 1, maxLocals := 1, code := prog_12_method_11_code, exceptionTable := #[], attributes := #[] }
def k10m2 : Method := { name := "outcome", desc := "()Lcom/example/holdfast/holdfast/provider/ProviderAnswer$Outcome;", sig := { parameters := [], returnType := some (.object "com/example/holdfast/holdfast/provider/ProviderAnswer$Outcome") }, accessFlags := 1, code := some k10c2 }
def k10c3 : Code := { maxStack := 1, maxLocals := 1, code := prog_12_method_12_code, exceptionTable := #[], attributes := #[] }
def k10m3 : Method := { name := "id", desc := "()Ljava/lang/String;", sig := { parameters := [], returnType := some (.object "java/lang/String") }, accessFlags := 1, code := some k10c3 }
def k10c4 : Code := { maxStack := 1, maxLocals := 1, code := prog_12_method_13_code, exceptionTable := #[], attributes := #[] }
def k10m4 : Method := { name := "detail", desc := "()Ljava/lang/String;", sig := { parameters := [], returnType := some (.object "java/lang/String") }, accessFlags := 1, code := some k10c4 }
/-- com/example/holdfast/holdfast/provider/ProviderAnswer -/
def k10 : Class := { plain "com/example/holdfast/holdfast/provider/ProviderAnswer" (some 9) with
  accessFlags := 49
  interfaces := #[]
  cf := some (fileOf pool10 8 #[.nestMembers #[21]] #[{ accessFlags := 1, nameIndex := 5, descriptorIndex := 27, attributes := #[] }, { accessFlags := 9, nameIndex := 62, descriptorIndex := 59, attributes := #[] }, { accessFlags := 1, nameIndex := 11, descriptorIndex := 68, attributes := #[] }, { accessFlags := 1, nameIndex := 15, descriptorIndex := 65, attributes := #[] }, { accessFlags := 1, nameIndex := 19, descriptorIndex := 65, attributes := #[] }] 49 2 #[] #[{ accessFlags := 18, nameIndex := 11, descriptorIndex := 12, attributes := #[] }, { accessFlags := 18, nameIndex := 15, descriptorIndex := 16, attributes := #[] }, { accessFlags := 18, nameIndex := 19, descriptorIndex := 16, attributes := #[] }])
  fields := #[{ name := "outcome", type := (.object "com/example/holdfast/holdfast/provider/ProviderAnswer$Outcome"), accessFlags := 18, slot := 0, constantValue := 0 }, { name := "id", type := (.object "java/lang/String"), accessFlags := 18, slot := 1, constantValue := 0 }, { name := "detail", type := (.object "java/lang/String"), accessFlags := 18, slot := 2, constantValue := 0 }]
  methods := #[k10m0, k10m1, k10m2, k10m3, k10m4]
  instanceTypes := #[(.object "com/example/holdfast/holdfast/provider/ProviderAnswer$Outcome"), (.object "java/lang/String"), (.object "java/lang/String")]
  staticTypes := #[]
  resolved := Array.replicate 93 none
  statics := none }

def pool11 : Array CpInfo := pool [(2, .class_ 4), (1, u "java/lang/Enum"), (0, u "name"), (0, u "Ljava/lang/String;"), (2, u "ordinal"), (0, u "I"), (1, .class_ 14), (1, u "java/lang/Object"), (4, u "hash"), (86, .class_ 108), (1, u "java/lang/Enum$EnumDesc"), (2, .class_ 112), (0, u "java/lang/constant/Constable"), (0, .class_ 114), (0, u "java/lang/Comparable"), (0, .class_ 116), (0, u "java/io/Serializable")] 87

/-- java/lang/Enum -/
def k11 : Class := { plain "java/lang/Enum" (some 0) with
  accessFlags := 1057
  interfaces := #[5, 3, 2]
  cf := some (fileOf pool11 2 #[.nestMembers #[106]] #[] 1057 12 #[111, 113, 115] #[{ accessFlags := 18, nameIndex := 5, descriptorIndex := 6, attributes := #[] }, { accessFlags := 18, nameIndex := 9, descriptorIndex := 10, attributes := #[] }, { accessFlags := 2, nameIndex := 19, descriptorIndex := 10, attributes := #[] }])
  fields := #[{ name := "name", type := (.object "java/lang/String"), accessFlags := 18, slot := 0, constantValue := 0 }, { name := "ordinal", type := .int, accessFlags := 18, slot := 1, constantValue := 0 }, { name := "hash", type := .int, accessFlags := 2, slot := 2, constantValue := 0 }]
  methods := #[]
  instanceTypes := #[(.object "java/lang/String"), .int, .int]
  staticTypes := #[]
  resolved := Array.replicate 204 none
  statics := none }

def pool12 : Array CpInfo := pool [(1, .class_ 2), (0, u "com/example/holdfast/holdfast/provider/ProviderAnswer$Outcome"), (2, u "PERFORMED"), (0, u "Lcom/example/holdfast/holdfast/provider/ProviderAnswer$Outcome;"), (2, u "DECLINED"), (2, u "REFUSED"), (2, u "FAILED"), (2, u "KEPT"), (2, u "NO_ANSWER"), (2, u "$VALUES"), (0, u "[Lcom/example/holdfast/holdfast/provider/ProviderAnswer$Outcome;"), (6, .class_ 34), (1, u "java/lang/Enum"), (29, .class_ 65), (0, u "com/example/holdfast/holdfast/provider/ProviderAnswer")] 2

/-- com/example/holdfast/holdfast/provider/ProviderAnswer$Outcome -/
def k12 : Class := { plain "com/example/holdfast/holdfast/provider/ProviderAnswer$Outcome" (some 11) with
  accessFlags := 16433
  interfaces := #[]
  cf := some (fileOf pool12 1 #[.nestHost 64] #[] 16433 32 #[] #[{ accessFlags := 16409, nameIndex := 5, descriptorIndex := 6, attributes := #[] }, { accessFlags := 16409, nameIndex := 9, descriptorIndex := 6, attributes := #[] }, { accessFlags := 16409, nameIndex := 12, descriptorIndex := 6, attributes := #[] }, { accessFlags := 16409, nameIndex := 15, descriptorIndex := 6, attributes := #[] }, { accessFlags := 16409, nameIndex := 18, descriptorIndex := 6, attributes := #[] }, { accessFlags := 16409, nameIndex := 21, descriptorIndex := 6, attributes := #[] }, { accessFlags := 4122, nameIndex := 24, descriptorIndex := 25, attributes := #[] }])
  fields := #[{ name := "PERFORMED", type := (.object "com/example/holdfast/holdfast/provider/ProviderAnswer$Outcome"), accessFlags := 16409, slot := 0, constantValue := 0 }, { name := "DECLINED", type := (.object "com/example/holdfast/holdfast/provider/ProviderAnswer$Outcome"), accessFlags := 16409, slot := 1, constantValue := 0 }, { name := "REFUSED", type := (.object "com/example/holdfast/holdfast/provider/ProviderAnswer$Outcome"), accessFlags := 16409, slot := 2, constantValue := 0 }, { name := "FAILED", type := (.object "com/example/holdfast/holdfast/provider/ProviderAnswer$Outcome"), accessFlags := 16409, slot := 3, constantValue := 0 }, { name := "KEPT", type := (.object "com/example/holdfast/holdfast/provider/ProviderAnswer$Outcome"), accessFlags := 16409, slot := 4, constantValue := 0 }, { name := "NO_ANSWER", type := (.object "com/example/holdfast/holdfast/provider/ProviderAnswer$Outcome"), accessFlags := 16409, slot := 5, constantValue := 0 }, { name := "$VALUES", type := (.array (.object "com/example/holdfast/holdfast/provider/ProviderAnswer$Outcome")), accessFlags := 4122, slot := 6, constantValue := 0 }]
  methods := #[]
  instanceTypes := #[(.object "java/lang/String"), .int, .int]
  staticTypes := #[(.object "com/example/holdfast/holdfast/provider/ProviderAnswer$Outcome"), (.object "com/example/holdfast/holdfast/provider/ProviderAnswer$Outcome"), (.object "com/example/holdfast/holdfast/provider/ProviderAnswer$Outcome"), (.object "com/example/holdfast/holdfast/provider/ProviderAnswer$Outcome"), (.object "com/example/holdfast/holdfast/provider/ProviderAnswer$Outcome"), (.object "com/example/holdfast/holdfast/provider/ProviderAnswer$Outcome"), (.array (.object "com/example/holdfast/holdfast/provider/ProviderAnswer$Outcome"))]
  resolved := Array.replicate 68 none
  statics := some 1 }

def pool13 : Array CpInfo := pool [(4, .class_ 6), (1, u "java/lang/Object"), (0, u "<init>"), (0, u "()V"), (5, .class_ 16), (1, u "java/lang/StringLatin1"), (73, u "canEncode"), (14, u "(C)Z"), (15, u "$assertionsDisabled"), (0, u "Z"), (98, .class_ 223), (1, u "java/lang/StringLatin1$LinesSpliterator"), (156, u "toBytes"), (1, u "(C)[B"), (7, .class_ 391), (0, u "java/lang/StringLatin1$CharsSpliterator")] 3

def k13m0 : Method := { name := "<init>", desc := "()V", sig := { parameters := [], returnType := none }, accessFlags := 0, code := none }
def k13c1 : Code := { maxStack := 2, maxLocals := 1, code := jdk_43_method_3_code, exceptionTable := #[], attributes := #[] }
def k13m1 : Method := { name := "canEncode", desc := "(C)Z", sig := { parameters := [.char], returnType := some .boolean }, accessFlags := 9, code := some k13c1 }
def k13c2 : Code := { maxStack := 4, maxLocals := 1, code := jdk_43_method_46_code, exceptionTable := #[], attributes := #[] }
def k13m2 : Method := { name := "toBytes", desc := "(C)[B", sig := { parameters := [.char], returnType := some (.array .byte) }, accessFlags := 9, code := some k13c2 }
/-- java/lang/StringLatin1 -/
def k13 : Class := { plain "java/lang/StringLatin1" (some 0) with
  accessFlags := 48
  interfaces := #[]
  cf := some (fileOf pool13 14 #[.nestMembers #[390, 221]] #[{ accessFlags := 0, nameIndex := 7, descriptorIndex := 8, attributes := #[] }, { accessFlags := 9, nameIndex := 90, descriptorIndex := 105, attributes := #[] }, { accessFlags := 9, nameIndex := 380, descriptorIndex := 382, attributes := #[] }] 48 4 #[] #[{ accessFlags := 4120, nameIndex := 121, descriptorIndex := 122, attributes := #[] }])
  fields := #[{ name := "$assertionsDisabled", type := .boolean, accessFlags := 4120, slot := 0, constantValue := 0 }]
  methods := #[k13m0, k13m1, k13m2]
  instanceTypes := #[]
  staticTypes := #[.boolean]
  resolved := Array.replicate 395 none
  statics := none }

def pool14 : Array CpInfo := pool [(2, .class_ 4), (1, u "java/lang/Object"), (0, u "<init>"), (0, u "()V"), (17, .class_ 26), (1, u "jdk/internal/util/Preconditions"), (28, .class_ 56), (0, u "jdk/internal/util/Preconditions$4"), (57, .class_ 115), (0, u "jdk/internal/util/Preconditions$1"), (7, u "SIOOBE_FORMATTER"), (0, u "Ljava/util/function/BiFunction;"), (0, .class_ 126), (0, u "jdk/internal/util/Preconditions$2"), (3, u "AIOOBE_FORMATTER"), (0, .class_ 132), (0, u "jdk/internal/util/Preconditions$3"), (3, u "IOOBE_FORMATTER")] 57

def k14m0 : Method := { name := "<init>", desc := "()V", sig := { parameters := [], returnType := none }, accessFlags := 1, code := none }
/-- jdk/internal/util/Preconditions -/
def k14 : Class := { plain "jdk/internal/util/Preconditions" (some 0) with
  accessFlags := 33
  interfaces := #[]
  cf := some (fileOf pool14 24 #[.nestMembers #[55, 131, 125, 114]] #[{ accessFlags := 1, nameIndex := 5, descriptorIndex := 6, attributes := #[] }] 33 2 #[] #[{ accessFlags := 25, nameIndex := 123, descriptorIndex := 124, attributes := #[] }, { accessFlags := 25, nameIndex := 130, descriptorIndex := 124, attributes := #[] }, { accessFlags := 25, nameIndex := 136, descriptorIndex := 124, attributes := #[] }])
  fields := #[{ name := "SIOOBE_FORMATTER", type := (.object "java/util/function/BiFunction"), accessFlags := 25, slot := 0, constantValue := 0 }, { name := "AIOOBE_FORMATTER", type := (.object "java/util/function/BiFunction"), accessFlags := 25, slot := 1, constantValue := 0 }, { name := "IOOBE_FORMATTER", type := (.object "java/util/function/BiFunction"), accessFlags := 25, slot := 2, constantValue := 0 }]
  methods := #[k14m0]
  instanceTypes := #[]
  staticTypes := #[(.object "java/util/function/BiFunction"), (.object "java/util/function/BiFunction"), (.object "java/util/function/BiFunction")]
  resolved := Array.replicate 194 none
  statics := some 2 }

def pool15 : Array CpInfo := pool [(9, u "<init>"), (6, .class_ 18), (1, u "java/lang/Object"), (0, u "()V"), (1, .class_ 23), (1, u "jdk/internal/util/ArraysSupport"), (0, u "LOG2_ARRAY_LONG_INDEX_SCALE"), (0, u "I"), (2, u "U"), (0, u "Ljdk/internal/misc/Unsafe;"), (8, u "BIG_ENDIAN"), (0, u "Z"), (8, u "LOG2_BYTE_BIT_SIZE"), (4, u "LOG2_ARRAY_INT_INDEX_SCALE"), (54, u "JLA"), (0, u "Ljdk/internal/access/JavaLangAccess;"), (11, u "LOG2_ARRAY_BOOLEAN_INDEX_SCALE"), (9, u "LOG2_ARRAY_BYTE_INDEX_SCALE"), (5, u "LOG2_ARRAY_CHAR_INDEX_SCALE"), (5, u "LOG2_ARRAY_SHORT_INDEX_SCALE"), (18, u "LOG2_ARRAY_FLOAT_INDEX_SCALE"), (24, u "LOG2_ARRAY_DOUBLE_INDEX_SCALE"), (89, u "T_BOOLEAN"), (2, u "T_CHAR"), (1, u "T_FLOAT"), (1, u "T_DOUBLE"), (1, u "T_BYTE"), (1, u "T_SHORT"), (1, u "T_INT"), (1, u "T_LONG"), (1, u "SOFT_MAX_ARRAY_LENGTH")] 83

def k15m0 : Method := { name := "<init>", desc := "()V", sig := { parameters := [], returnType := none }, accessFlags := 2, code := none }
/-- jdk/internal/util/ArraysSupport -/
def k15 : Class := { plain "jdk/internal/util/ArraysSupport" (some 0) with
  accessFlags := 33
  interfaces := #[]
  cf := some (fileOf pool15 21 #[] #[{ accessFlags := 2, nameIndex := 9, descriptorIndex := 19, attributes := #[] }] 33 16 #[] #[{ accessFlags := 24, nameIndex := 28, descriptorIndex := 29, attributes := #[] }, { accessFlags := 26, nameIndex := 38, descriptorIndex := 39, attributes := #[] }, { accessFlags := 25, nameIndex := 121, descriptorIndex := 25, attributes := #[] }, { accessFlags := 25, nameIndex := 131, descriptorIndex := 25, attributes := #[] }, { accessFlags := 25, nameIndex := 137, descriptorIndex := 25, attributes := #[] }, { accessFlags := 25, nameIndex := 143, descriptorIndex := 25, attributes := #[] }, { accessFlags := 25, nameIndex := 53, descriptorIndex := 25, attributes := #[] }, { accessFlags := 25, nameIndex := 24, descriptorIndex := 25, attributes := #[] }, { accessFlags := 25, nameIndex := 162, descriptorIndex := 25, attributes := #[] }, { accessFlags := 25, nameIndex := 187, descriptorIndex := 25, attributes := #[] }, { accessFlags := 26, nameIndex := 48, descriptorIndex := 25, attributes := #[] }, { accessFlags := 25, nameIndex := 277, descriptorIndex := 25, attributes := #[] }, { accessFlags := 25, nameIndex := 280, descriptorIndex := 25, attributes := #[] }, { accessFlags := 25, nameIndex := 282, descriptorIndex := 25, attributes := #[] }, { accessFlags := 25, nameIndex := 284, descriptorIndex := 25, attributes := #[] }, { accessFlags := 25, nameIndex := 286, descriptorIndex := 25, attributes := #[] }, { accessFlags := 25, nameIndex := 288, descriptorIndex := 25, attributes := #[] }, { accessFlags := 25, nameIndex := 290, descriptorIndex := 25, attributes := #[] }, { accessFlags := 25, nameIndex := 292, descriptorIndex := 25, attributes := #[] }, { accessFlags := 26, nameIndex := 108, descriptorIndex := 109, attributes := #[] }, { accessFlags := 25, nameIndex := 294, descriptorIndex := 25, attributes := #[] }])
  fields := #[{ name := "U", type := (.object "jdk/internal/misc/Unsafe"), accessFlags := 24, slot := 0, constantValue := 0 }, { name := "BIG_ENDIAN", type := .boolean, accessFlags := 26, slot := 1, constantValue := 0 }, { name := "LOG2_ARRAY_BOOLEAN_INDEX_SCALE", type := .int, accessFlags := 25, slot := 2, constantValue := 0 }, { name := "LOG2_ARRAY_BYTE_INDEX_SCALE", type := .int, accessFlags := 25, slot := 3, constantValue := 0 }, { name := "LOG2_ARRAY_CHAR_INDEX_SCALE", type := .int, accessFlags := 25, slot := 4, constantValue := 0 }, { name := "LOG2_ARRAY_SHORT_INDEX_SCALE", type := .int, accessFlags := 25, slot := 5, constantValue := 0 }, { name := "LOG2_ARRAY_INT_INDEX_SCALE", type := .int, accessFlags := 25, slot := 6, constantValue := 0 }, { name := "LOG2_ARRAY_LONG_INDEX_SCALE", type := .int, accessFlags := 25, slot := 7, constantValue := 0 }, { name := "LOG2_ARRAY_FLOAT_INDEX_SCALE", type := .int, accessFlags := 25, slot := 8, constantValue := 0 }, { name := "LOG2_ARRAY_DOUBLE_INDEX_SCALE", type := .int, accessFlags := 25, slot := 9, constantValue := 0 }, { name := "LOG2_BYTE_BIT_SIZE", type := .int, accessFlags := 26, slot := 10, constantValue := 0 }, { name := "T_BOOLEAN", type := .int, accessFlags := 25, slot := 11, constantValue := 0 }, { name := "T_CHAR", type := .int, accessFlags := 25, slot := 12, constantValue := 0 }, { name := "T_FLOAT", type := .int, accessFlags := 25, slot := 13, constantValue := 0 }, { name := "T_DOUBLE", type := .int, accessFlags := 25, slot := 14, constantValue := 0 }, { name := "T_BYTE", type := .int, accessFlags := 25, slot := 15, constantValue := 0 }, { name := "T_SHORT", type := .int, accessFlags := 25, slot := 16, constantValue := 0 }, { name := "T_INT", type := .int, accessFlags := 25, slot := 17, constantValue := 0 }, { name := "T_LONG", type := .int, accessFlags := 25, slot := 18, constantValue := 0 }, { name := "JLA", type := (.object "jdk/internal/access/JavaLangAccess"), accessFlags := 26, slot := 19, constantValue := 0 }, { name := "SOFT_MAX_ARRAY_LENGTH", type := .int, accessFlags := 25, slot := 20, constantValue := 0 }]
  methods := #[k15m0]
  instanceTypes := #[]
  staticTypes := #[(.object "jdk/internal/misc/Unsafe"), .boolean, .int, .int, .int, .int, .int, .int, .int, .int, .int, .int, .int, .int, .int, .int, .int, .int, .int, (.object "jdk/internal/access/JavaLangAccess"), .int]
  resolved := Array.replicate 378 none
  statics := none }

def pool16 : Array CpInfo := pool [(1, u "java/lang/Cloneable"), (0, .class_ 1), (0, u "java/lang/Object"), (0, .class_ 3)] 3

/-- java/lang/Cloneable -/
def k16 : Class := { plain "java/lang/Cloneable" (some 0) with
  accessFlags := 1537
  interfaces := #[]
  cf := some (fileOf pool16 2 #[] #[] 1537 4 #[] #[])
  fields := #[]
  methods := #[]
  instanceTypes := #[]
  staticTypes := #[]
  resolved := Array.replicate 8 none
  statics := none }

/-- the primitive byte -/
def k17 : Class := { plain "byte" none with kind := .primitive 'B', accessFlags := 0x411 }
/-- [B -/
def k18 : Class := { plain "[B" (some 0) with kind := .array 17 .byte, interfaces := #[16, 2], accessFlags := 1041 }

/-- the primitive char -/
def k19 : Class := { plain "char" none with kind := .primitive 'C', accessFlags := 0x411 }
/-- [C -/
def k20 : Class := { plain "[C" (some 0) with kind := .array 19 .char, interfaces := #[16, 2], accessFlags := 1041 }

/-- the primitive int -/
def k21 : Class := { plain "int" none with kind := .primitive 'I', accessFlags := 0x411 }
/-- [I -/
def k22 : Class := { plain "[I" (some 0) with kind := .array 21 .int, interfaces := #[16, 2], accessFlags := 1041 }

def heap : Heap := #[{ cls := 7, slots := #[.long 0, .int 1, .null, .int 0, .null, .int 0, .int 0], vm := .statics 7 },
  { cls := 12, slots := #[.null, .null, .null, .ref 3, .null, .null, .null], vm := .statics 12 },
  { cls := 14, slots := #[.null, .null, .null], vm := .statics 14 },
  { cls := 12, slots := #[.null, .int 0, .int 0], vm := .none }]
def classes : Array Class := #[k0, k1, k2, k3, k4, k5, k6, k7, k8, k9, k10, k11, k12, k13, k14, k15, k16, k17, k18, k19, k20, k21, k22]
def interned : List (Array UInt16 × Addr) := []
def slotsUsed : Nat := 20
def theMethod : MethodId := ⟨1, 1⟩
def args0 : Array Value := #[.int 97, .int 98, .int 2]
def aboutOver (below : List Frame) : State where
  vm := { classes := classes, interned := interned.toArray }
  heap := heap
  slotsUsed := slotsUsed
  threads := #[{ frames := .invoking theMethod args0 :: below }]
def below0 : List Frame := [.native { method := ⟨0, 0⟩, args := #[] }]
def about1 : State := aboutOver below0
def p0 : Program := .bare "" "" ""
def e0 : Env := launch0.env 0 0 0
theorem w_frames : about1.frames = Frame.invoking theMethod args0 :: below0 := rfl
set_option maxRecDepth 65536 in
theorem w_args : argsFit about1.vm theMethod args0 = true := by decide +kernel
theorem heapFits_list (s : State) : heapFits s = s.heap.toList.all (cellFits s) := by simp [heapFits, Array.all_toList]
set_option maxRecDepth 65536 in
theorem w_heap : heapFits about1 = true := by
  rw [heapFits_list]
  decide +kernel
set_option maxRecDepth 65536 in
theorem w_runnable : about1.curStatus? = some .runnable := by decide +kernel
set_option maxRecDepth 65536 in
theorem w_alone : about1.alone = true := by decide +kernel
set_option maxRecDepth 65536 in
theorem w_named : about1.methodNamed? x = some theMethod := by decide +kernel
set_option maxRecDepth 65536 in
theorem w_hears : about1.hears theMethod below0 = true := by decide +kernel
set_option maxRecDepth 65536 in
theorem w_ripe : about1.ripe theMethod args0 below0 = true := by decide +kernel
theorem w_running : about1.status = .running := rfl
set_option maxRecDepth 65536 in
theorem w_room : about1.hasRoom e0.platform room_1 = true :=
  launch0.hasRoom_least _ room_1 (by decide +kernel) (by decide +kernel) (by decide +kernel) (by decide +kernel) (by decide +kernel) (by decide +kernel)
theorem allAtoms_all (ts : List Jvm.Cond) (a : Array Jvm.Value) (st : Jvm.State) : (allAtoms ts).before a st = ts.all (fun c => c.before a st) := by
  induction ts with
  | nil => rfl
  | cons c t ih =>
    show (Jvm.Cond.and c (allAtoms t)).before a st = _
    rw [Jvm.Cond.before_and, ih, List.all_cons]
def words1 : List Jvm.Cond := Jvm.Cond.code x code maxLocals ret :: tables_1
/-- a 'code' word, met by the world's own term for the bytes: nothing is compared byte by byte -/
theorem code_word {y : MethodName} {bytes : ByteArray} {mx : Nat} {rt : Option FieldType} {a : Array Value} {s : State} {m : MethodId} {meth : Method} {c : Code} (h1 : s.methodNamed? y = some m) (h2 : s.vm.method? m = some meth) (h3 : meth.code = some c) (h4 : c.code = bytes)
    (h5 : (c.maxLocals == mx && c.exceptionTable.isEmpty && decide (c.maxStack ≤ mostOperands) && decide (meth.sig.returnType = rt) && !meth.locks && decide (parseMethodDescriptor y.desc = some meth.sig)) = true) : (Jvm.Cond.code y bytes mx rt).before a s = true := by
  simp only [Bool.and_eq_true, beq_iff_eq, Bool.not_eq_true', decide_eq_true_eq] at h5
  obtain ⟨⟨⟨⟨⟨g1, g2⟩, g3⟩, g4⟩, g5⟩, g6⟩ := h5
  simp [Cond.before, Cond.holds, Cond.value, h1, h2, h3, h4, g1, g2, g3, g4, g5, g6]
def isCode : Jvm.Cond → Bool
  | .code _ _ _ _ => true
  | _ => false
theorem all_split {L : List Jvm.Cond} {P : Jvm.Cond → Bool} (h1 : L.all (fun c => isCode c || P c) = true) (h2 : ∀ c ∈ L.filter isCode, P c = true) : L.all P = true := by
  refine List.all_eq_true.mpr fun c hc => ?_
  have h := List.all_eq_true.mp h1 c hc
  rcases Bool.eq_false_or_eq_true (isCode c) with hi | hi
  · exact h2 c (List.mem_filter.mpr ⟨hc, hi⟩)
  · simpa [hi] using h
set_option maxRecDepth 65536 in
theorem w_c0 : (Jvm.Cond.code x code maxLocals ret).before args0 about1 = true := code_word (m := ⟨1, 1⟩) (meth := k1m1) (c := k1c1) (by decide +kernel) rfl rfl rfl (by decide +kernel)
set_option maxRecDepth 65536 in
theorem w_c1 : (Jvm.Cond.code ({ cls := "java/lang/String", name := "<init>", desc := "([C)V" } : Jvm.MethodName) jdk_42_method_3_code (2 : Nat) (Option.none : Option Jvm.ClassFile.FieldType)).before args0 about1 = true := code_word (m := ⟨7, 1⟩) (meth := k7m1) (c := k7c1) (by decide +kernel) rfl rfl rfl (by decide +kernel)
set_option maxRecDepth 65536 in
theorem w_c2 : (Jvm.Cond.code ({ cls := "java/lang/String", name := "<init>", desc := "([CIILjava/lang/Void;)V" } : Jvm.MethodName) jdk_42_method_149_code (6 : Nat) (Option.none : Option Jvm.ClassFile.FieldType)).before args0 about1 = true := code_word (m := ⟨7, 3⟩) (meth := k7m3) (c := k7c3) (by decide +kernel) rfl rfl rfl (by decide +kernel)
set_option maxRecDepth 65536 in
theorem w_c3 : (Jvm.Cond.code ({ cls := "java/lang/Object", name := "<init>", desc := "()V" } : Jvm.MethodName) object_method_1_code (1 : Nat) (Option.none : Option Jvm.ClassFile.FieldType)).before args0 about1 = true := code_word (m := ⟨0, 0⟩) (meth := k0m0) (c := k0c0) (by decide +kernel) rfl rfl rfl (by decide +kernel)
set_option maxRecDepth 65536 in
theorem w_c4 : (Jvm.Cond.code ({ cls := "java/lang/StringUTF16", name := "compress", desc := "([CII)[B" } : Jvm.MethodName) jdk_52_method_16_code (6 : Nat) (Option.some (Jvm.ClassFile.FieldType.array Jvm.ClassFile.FieldType.byte))).before args0 about1 = true := code_word (m := ⟨8, 2⟩) (meth := k8m2) (c := k8c2) (by decide +kernel) rfl rfl rfl (by decide +kernel)
set_option maxRecDepth 65536 in
theorem w_c5 : (Jvm.Cond.code ({ cls := "java/lang/StringUTF16", name := "compress", desc := "([CI[BII)I" } : Jvm.MethodName) jdk_52_method_21_code (7 : Nat) (Option.some Jvm.ClassFile.FieldType.int)).before args0 about1 = true := code_word (m := ⟨8, 3⟩) (meth := k8m3) (c := k8c3) (by decide +kernel) rfl rfl rfl (by decide +kernel)
set_option maxRecDepth 65536 in
theorem w_c6 : (Jvm.Cond.code ({ cls := "java/lang/StringUTF16", name := "coderFromArrayLen", desc := "([BI)B" } : Jvm.MethodName) jdk_52_method_15_code (2 : Nat) (Option.some Jvm.ClassFile.FieldType.byte)).before args0 about1 = true := code_word (m := ⟨8, 1⟩) (meth := k8m1) (c := k8c1) (by decide +kernel) rfl rfl rfl (by decide +kernel)
set_option maxRecDepth 65536 in
theorem w_c7 : (Jvm.Cond.code ({ cls := "com/example/holdfast/holdfast/provider/ProviderAnswer", name := "failed", desc := "(Ljava/lang/String;)Lcom/example/holdfast/holdfast/provider/ProviderAnswer;" } : Jvm.MethodName) prog_12_method_5_code (1 : Nat) (Option.some (Jvm.ClassFile.FieldType.object "com/example/holdfast/holdfast/provider/ProviderAnswer"))).before args0 about1 = true := code_word (m := ⟨10, 1⟩) (meth := k10m1) (c := k10c1) (by decide +kernel) rfl rfl rfl (by decide +kernel)
set_option maxRecDepth 65536 in
theorem w_c8 : (Jvm.Cond.code ({ cls := "com/example/holdfast/holdfast/provider/ProviderAnswer", name := "<init>", desc := "(Lcom/example/holdfast/holdfast/provider/ProviderAnswer$Outcome;Ljava/lang/String;Ljava/lang/String;)V" } : Jvm.MethodName) prog_12_method_1_code (4 : Nat) (Option.none : Option Jvm.ClassFile.FieldType)).before args0 about1 = true := code_word (m := ⟨10, 0⟩) (meth := k10m0) (c := k10c0) (by decide +kernel) rfl rfl rfl (by decide +kernel)
set_option maxRecDepth 65536 in
theorem w_c9 : (Jvm.Cond.code ({ cls := "java/lang/Record", name := "<init>", desc := "()V" } : Jvm.MethodName) jdk_30_method_1_code (1 : Nat) (Option.none : Option Jvm.ClassFile.FieldType)).before args0 about1 = true := code_word (m := ⟨9, 0⟩) (meth := k9m0) (c := k9c0) (by decide +kernel) rfl rfl rfl (by decide +kernel)
set_option maxRecDepth 65536 in
theorem w_c10 : (Jvm.Cond.code ({ cls := "com/example/holdfast/holdfast/provider/ProviderAnswer", name := "outcome", desc := "()Lcom/example/holdfast/holdfast/provider/ProviderAnswer$Outcome;" } : Jvm.MethodName) prog_12_method_11_code (1 : Nat) (Option.some (Jvm.ClassFile.FieldType.object "com/example/holdfast/holdfast/provider/ProviderAnswer$Outcome"))).before args0 about1 = true := code_word (m := ⟨10, 2⟩) (meth := k10m2) (c := k10c2) (by decide +kernel) rfl rfl rfl (by decide +kernel)
set_option maxRecDepth 65536 in
theorem w_c11 : (Jvm.Cond.code ({ cls := "com/example/holdfast/holdfast/provider/ProviderAnswer", name := "id", desc := "()Ljava/lang/String;" } : Jvm.MethodName) prog_12_method_12_code (1 : Nat) (Option.some (Jvm.ClassFile.FieldType.object "java/lang/String"))).before args0 about1 = true := code_word (m := ⟨10, 3⟩) (meth := k10m3) (c := k10c3) (by decide +kernel) rfl rfl rfl (by decide +kernel)
set_option maxRecDepth 65536 in
theorem w_c12 : (Jvm.Cond.code ({ cls := "com/example/holdfast/holdfast/provider/ProviderAnswer", name := "detail", desc := "()Ljava/lang/String;" } : Jvm.MethodName) prog_12_method_13_code (1 : Nat) (Option.some (Jvm.ClassFile.FieldType.object "java/lang/String"))).before args0 about1 = true := code_word (m := ⟨10, 4⟩) (meth := k10m4) (c := k10c4) (by decide +kernel) rfl rfl rfl (by decide +kernel)
set_option maxRecDepth 65536 in
theorem w_c13 : (Jvm.Cond.code ({ cls := "java/lang/String", name := "valueOf", desc := "(C)Ljava/lang/String;" } : Jvm.MethodName) jdk_42_method_139_code (1 : Nat) (Option.some (Jvm.ClassFile.FieldType.object "java/lang/String"))).before args0 about1 = true := code_word (m := ⟨7, 2⟩) (meth := k7m2) (c := k7c2) (by decide +kernel) rfl rfl rfl (by decide +kernel)
set_option maxRecDepth 65536 in
theorem w_c14 : (Jvm.Cond.code ({ cls := "java/lang/StringLatin1", name := "canEncode", desc := "(C)Z" } : Jvm.MethodName) jdk_43_method_3_code (1 : Nat) (Option.some Jvm.ClassFile.FieldType.boolean)).before args0 about1 = true := code_word (m := ⟨13, 1⟩) (meth := k13m1) (c := k13c1) (by decide +kernel) rfl rfl rfl (by decide +kernel)
set_option maxRecDepth 65536 in
theorem w_c15 : (Jvm.Cond.code ({ cls := "java/lang/StringLatin1", name := "toBytes", desc := "(C)[B" } : Jvm.MethodName) jdk_43_method_46_code (1 : Nat) (Option.some (Jvm.ClassFile.FieldType.array Jvm.ClassFile.FieldType.byte))).before args0 about1 = true := code_word (m := ⟨13, 2⟩) (meth := k13m2) (c := k13c2) (by decide +kernel) rfl rfl rfl (by decide +kernel)
set_option maxRecDepth 65536 in
theorem w_c16 : (Jvm.Cond.code ({ cls := "java/lang/String", name := "<init>", desc := "([BB)V" } : Jvm.MethodName) jdk_42_method_151_code (3 : Nat) (Option.none : Option Jvm.ClassFile.FieldType)).before args0 about1 = true := code_word (m := ⟨7, 4⟩) (meth := k7m4) (c := k7c4) (by decide +kernel) rfl rfl rfl (by decide +kernel)
def codes1 : List Jvm.Cond := [Jvm.Cond.code x code maxLocals ret, Jvm.Cond.code ({ cls := "java/lang/String", name := "<init>", desc := "([C)V" } : Jvm.MethodName) jdk_42_method_3_code (2 : Nat) (Option.none : Option Jvm.ClassFile.FieldType), Jvm.Cond.code ({ cls := "java/lang/String", name := "<init>", desc := "([CIILjava/lang/Void;)V" } : Jvm.MethodName) jdk_42_method_149_code (6 : Nat) (Option.none : Option Jvm.ClassFile.FieldType), Jvm.Cond.code ({ cls := "java/lang/Object", name := "<init>", desc := "()V" } : Jvm.MethodName) object_method_1_code (1 : Nat) (Option.none : Option Jvm.ClassFile.FieldType), Jvm.Cond.code ({ cls := "java/lang/StringUTF16", name := "compress", desc := "([CII)[B" } : Jvm.MethodName) jdk_52_method_16_code (6 : Nat) (Option.some (Jvm.ClassFile.FieldType.array Jvm.ClassFile.FieldType.byte)), Jvm.Cond.code ({ cls := "java/lang/StringUTF16", name := "compress", desc := "([CI[BII)I" } : Jvm.MethodName) jdk_52_method_21_code (7 : Nat) (Option.some Jvm.ClassFile.FieldType.int), Jvm.Cond.code ({ cls := "java/lang/StringUTF16", name := "coderFromArrayLen", desc := "([BI)B" } : Jvm.MethodName) jdk_52_method_15_code (2 : Nat) (Option.some Jvm.ClassFile.FieldType.byte), Jvm.Cond.code ({ cls := "com/example/holdfast/holdfast/provider/ProviderAnswer", name := "failed", desc := "(Ljava/lang/String;)Lcom/example/holdfast/holdfast/provider/ProviderAnswer;" } : Jvm.MethodName) prog_12_method_5_code (1 : Nat) (Option.some (Jvm.ClassFile.FieldType.object "com/example/holdfast/holdfast/provider/ProviderAnswer")), Jvm.Cond.code ({ cls := "com/example/holdfast/holdfast/provider/ProviderAnswer", name := "<init>", desc := "(Lcom/example/holdfast/holdfast/provider/ProviderAnswer$Outcome;Ljava/lang/String;Ljava/lang/String;)V" } : Jvm.MethodName) prog_12_method_1_code (4 : Nat) (Option.none : Option Jvm.ClassFile.FieldType), Jvm.Cond.code ({ cls := "java/lang/Record", name := "<init>", desc := "()V" } : Jvm.MethodName) jdk_30_method_1_code (1 : Nat) (Option.none : Option Jvm.ClassFile.FieldType), Jvm.Cond.code ({ cls := "com/example/holdfast/holdfast/provider/ProviderAnswer", name := "outcome", desc := "()Lcom/example/holdfast/holdfast/provider/ProviderAnswer$Outcome;" } : Jvm.MethodName) prog_12_method_11_code (1 : Nat) (Option.some (Jvm.ClassFile.FieldType.object "com/example/holdfast/holdfast/provider/ProviderAnswer$Outcome")), Jvm.Cond.code ({ cls := "com/example/holdfast/holdfast/provider/ProviderAnswer", name := "id", desc := "()Ljava/lang/String;" } : Jvm.MethodName) prog_12_method_12_code (1 : Nat) (Option.some (Jvm.ClassFile.FieldType.object "java/lang/String")), Jvm.Cond.code ({ cls := "com/example/holdfast/holdfast/provider/ProviderAnswer", name := "detail", desc := "()Ljava/lang/String;" } : Jvm.MethodName) prog_12_method_13_code (1 : Nat) (Option.some (Jvm.ClassFile.FieldType.object "java/lang/String")), Jvm.Cond.code ({ cls := "java/lang/String", name := "valueOf", desc := "(C)Ljava/lang/String;" } : Jvm.MethodName) jdk_42_method_139_code (1 : Nat) (Option.some (Jvm.ClassFile.FieldType.object "java/lang/String")), Jvm.Cond.code ({ cls := "java/lang/StringLatin1", name := "canEncode", desc := "(C)Z" } : Jvm.MethodName) jdk_43_method_3_code (1 : Nat) (Option.some Jvm.ClassFile.FieldType.boolean), Jvm.Cond.code ({ cls := "java/lang/StringLatin1", name := "toBytes", desc := "(C)[B" } : Jvm.MethodName) jdk_43_method_46_code (1 : Nat) (Option.some (Jvm.ClassFile.FieldType.array Jvm.ClassFile.FieldType.byte)), Jvm.Cond.code ({ cls := "java/lang/String", name := "<init>", desc := "([BB)V" } : Jvm.MethodName) jdk_42_method_151_code (3 : Nat) (Option.none : Option Jvm.ClassFile.FieldType)]
set_option maxRecDepth 65536 in
theorem codes_eq : words1.filter isCode = codes1 := rfl
theorem w_codes : ∀ c ∈ words1.filter isCode, c.before args0 about1 = true := by
  rw [codes_eq]
  intro c hc
  simp only [codes1, List.mem_cons, List.not_mem_nil, or_false] at hc
  rcases hc with rfl | rfl | rfl | rfl | rfl | rfl | rfl | rfl | rfl | rfl | rfl | rfl | rfl | rfl | rfl | rfl | rfl
  · exact w_c0
  · exact w_c1
  · exact w_c2
  · exact w_c3
  · exact w_c4
  · exact w_c5
  · exact w_c6
  · exact w_c7
  · exact w_c8
  · exact w_c9
  · exact w_c10
  · exact w_c11
  · exact w_c12
  · exact w_c13
  · exact w_c14
  · exact w_c15
  · exact w_c16
set_option maxRecDepth 65536 in
theorem w_t1 : (words1.take 24).all (fun c => isCode c || c.before args0 about1) = true := by decide +kernel
set_option maxRecDepth 65536 in
theorem w_t2 : ((words1.drop 24).take 24).all (fun c => isCode c || c.before args0 about1) = true := by decide +kernel
set_option maxRecDepth 65536 in
theorem w_t3 : (((words1.drop 24).drop 24).take 24).all (fun c => isCode c || c.before args0 about1) = true := by decide +kernel
set_option maxRecDepth 65536 in
theorem w_t4 : (((words1.drop 24).drop 24).drop 24).all (fun c => isCode c || c.before args0 about1) = true := by decide +kernel
theorem w_tables : (allAtoms (Jvm.Cond.code x code maxLocals ret :: tables_1)).before args0 about1 = true := by
  rw [allAtoms_all]
  show words1.all (fun c => c.before args0 about1) = true
  refine all_split ?_ w_codes
  rw [← List.take_append_drop 24 words1, List.all_append, w_t1, ← List.take_append_drop 24 (words1.drop 24), List.all_append, w_t2, ← List.take_append_drop 24 ((words1.drop 24).drop 24), List.all_append, w_t3, w_t4]
  rfl
set_option maxRecDepth 65536 in
theorem w_rest : rest_1_c.before args0 about1 = true := by decide +kernel
set_option maxRecDepth 65536 in
theorem w_case : (Jvm.Cond.and given_1 narrow_1).before args0 about1 = true := by decide +kernel
set_option maxRecDepth 65536 in
theorem w_consts : constsHeld consts_1 about1 := Jvm.Lit.constsHeldB_iff.mp (by decide +kernel)
theorem w_applies : (headSpec (Jvm.Cond.code x code maxLocals ret :: tables_1) room_1).applies x e0.platform about1 = true :=
  (Spec.applies_iff w_frames).mpr ⟨w_running, w_runnable, w_alone, w_named, w_hears, w_ripe, w_room, w_tables⟩
theorem atStart : AtStart classFile x code maxLocals ret World_1 tables_1 room_1 Calls_1 rest_1 Pre_1 launch0 p0 e0 about1 theMethod args0 below0 :=
  ⟨lists_1, trivial, launch0.admits_env _ _ _, launch0.least_env, fairChoices_fair.cas, fairChoices_fair.clock, w_frames, w_args, w_heap, w_applies, ⟨w_consts, trivial⟩, w_rest, w_case⟩
end start1
theorem witness_1 : WitnessClaimed_1 := ⟨start1.p0, start1.e0, start1.about1, start1.theMethod, start1.args0, start1.below0, start1.atStart⟩
end Jvm.Pilot.@@N@@
